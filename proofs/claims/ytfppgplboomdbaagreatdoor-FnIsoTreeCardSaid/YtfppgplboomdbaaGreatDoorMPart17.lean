/- Part of the proofs of laws.FnIsoTree and laws.FnIsoAt: lemmas and contracts of functions that the two laws reach, each under the hypotheses that its own statement names. -/
import Derived.Test.YtfppgplboomdbaaGreatDoorMN0
import Derived.Test.YtfppgplboomdbaaGreatDoorMPart16
import Derived.Test.YtfppgplboomdbaaGreatDoorML1
namespace Go.Proofs.YtfppgplboomdbaaGreatDoor
open Go.RowKit

/-- From w to w' only the block of v's own cells and new blocks have changed. -/
structure Grow (w : World) (v v' : Value) (w' : World) : Prop where
  zero : Below 0 w w'
  size : w.heap.size ≤ w'.heap.size
  other : ∀ k, k < w.heap.size → v.ownBlock ≠ some k → w'.heap[k]? = w.heap[k]?
  block : ∀ k, v'.ownBlock = some k → v.ownBlock = some k ∨ w.heap.size ≤ k
theorem Grow.refl (w : World) (v : Value) : Grow w v v w := ⟨Below.refl _ _, Nat.le_refl _, fun _ _ _ => rfl, fun _ h => .inl h⟩
theorem Grow.trans {w w1 w2 : World} {v v1 v2 : Value} (h1 : Grow w v v1 w1) (h2 : Grow w1 v1 v2 w2) : Grow w v v2 w2 := by
  have s1 := h1.size
  have s2 := h2.size
  refine ⟨h1.zero.trans h2.zero, by omega, fun k hk hv => ?_, fun k hk => ?_⟩
  · rw [h2.other k (by omega) (fun e => ?_), h1.other k hk hv]
    rcases h1.block k e with e | e
    · exact hv e
    · omega
  · rcases h2.block k hk with e | e
    · exact h1.block k e
    · exact .inr (by omega)
theorem Grow.new {w w' : World} (v : Value) (h : Below w.heap.size w w') : Grow w v v w' := ⟨h.mono (Nat.zero_le _), h.size, fun k hk _ => h.block k hk, fun _ h => .inl h⟩
theorem Grow.app {w w' : World} {B sz n m : Nat} {v v' : Value} {xs ys : List Value} (h : AppLeft w B sz n m v xs ys v' w') : Grow w v v' w' := ⟨h.below.mono (Nat.zero_le _), h.grew, h.other, h.block⟩
theorem Grow.below {w w' : World} {v v' : Value} (h : Grow w v v' w') {B : Nat} (hB : B ≤ w.heap.size) (hv : ∀ k, v.ownBlock = some k → B ≤ k) : Below B w w' :=
  ⟨h.zero.os, h.zero.tape, h.zero.output, h.size, fun k hk => h.other k (by omega) (fun e => by have := hv k e; omega)⟩
def fnV (k fp : Nat) : Value := .func (.func k) #[.pointer (some ⟨fp, 0, none⟩)] #[]
def roadsV (fp xv : Nat) : Value := .agg #[fnV 50 fp, fnV 51 fp, fnV 52 fp, .func (.func 53) #[] #[.pointer (some ⟨xv, 0, none⟩)]]
/-- The first q kids, each with what lies below it. -/
def pre1 (nd : Nat → Nd) (ks : Nat → List Nat) (f i q : Nat) : List Nat := ((ks i).take q).flatMap fun k => k :: (if (nd k).f.dir then pre nd ks f k else [])
theorem pre1_zero (nd : Nat → Nd) (ks : Nat → List Nat) (f i : Nat) : pre1 nd ks f i 0 = [] := rfl
theorem pre1_succ {nd : Nat → Nd} {ks : Nat → List Nat} {f i q k : Nat} (h : (ks i)[q]? = some k) : pre1 nd ks f i (q + 1) = pre1 nd ks f i q ++ (k :: (if (nd k).f.dir then pre nd ks f k else [])) := by
  unfold pre1
  rw [List.take_add_one, h, List.flatMap_append]
  simp
theorem pre1_all {nd : Nat → Nd} {ks : Nat → List Nat} {f i q : Nat} (h : (ks i).length ≤ q) : pre1 nd ks f i q = pre nd ks (f + 1) i := by
  unfold pre1
  rw [List.take_of_length_le h]; rfl
theorem pre1_le (nd : Nat → Nd) (ks : Nat → List Nat) (f i q : Nat) : (pre1 nd ks f i q).length ≤ (pre nd ks (f + 1) i).length := by
  have e : pre nd ks (f + 1) i = pre1 nd ks f i q ++ ((ks i).drop q).flatMap (fun k => k :: (if (nd k).f.dir then pre nd ks f k else [])) := by
    unfold pre1
    rw [← List.flatMap_append, List.take_append_drop]; rfl
  rw [e, List.length_append]; omega
/-- The path of a kid. -/
theorem kid_path {nd : Nat → Nd} {ks : Nat → List Nat} {n : Nat} (h : Tree nd ks n) (g : GoodN nd n) {i k : Nat} (hi : i < n) (hk : k ∈ ks i) {s : ByteArray} (hp : PathOf nd i s) (N : ByteArray) (hN : N.data.toList = nmN nd k) :
    (s.data.toList = [46] ∧ N.data.toList = joinP (pth nd k)) ∨ (s.data.toList ≠ [46] ∧ 0 < s.size ∧ s.data.toList ++ 47 :: N.data.toList = joinP (pth nd k)) := by
  have hkp := kid_pth h g hi hk
  rcases hp with ⟨rfl, hs⟩ | ⟨h1, hs⟩
  · left
    have h0 : pth nd 0 = [] := rfl
    rw [hkp, h0, hN]
    exact ⟨hs, (joinP_one _).symm⟩
  · right
    have hS := pth_str g h1 hi hs
    have hne : pth nd i ≠ [] := by rw [g.parts i h1 hi]; simp
    refine ⟨fun e => ?_, hS.pos, ?_⟩
    · have h2 := hS.els
      rw [e] at h2
      have h3 := hS.plain [46] (by rw [← h2]; simp [Lib.Pa.els])
      exact h3.dot rfl
    · rw [hkp, joinP_snoc _ _ hne, hs, hN]
theorem lcells_len (l : LeafD) : (lcells l).length = 15 := rfl
theorem lcells_one (l : LeafD) : ∀ u ∈ lcells l, u.oneCell' = true := by
  intro u hu
  simp only [lcells, List.mem_cons, List.not_mem_nil, or_false] at hu
  rcases hu with rfl | rfl | rfl | rfl | rfl | rfl | rfl | rfl | rfl | rfl | rfl | rfl | rfl | rfl | rfl <;> rfl
def lsC (ls : List LeafD) : List Value := ls.flatMap lcells
theorem lsC_len (ls : List LeafD) : (lsC ls).length = ls.length * 15 := by
  induction ls with
  | nil => rfl
  | cons a ls ih =>
    have e : lsC (a :: ls) = lcells a ++ lsC ls := rfl
    rw [e, List.length_append, ih, lcells_len, List.length_cons]; omega
theorem lsC_append (a b : List LeafD) : lsC (a ++ b) = lsC a ++ lsC b := by simp [lsC]
theorem lsC_one (a : LeafD) : lsC [a] = lcells a := by simp [lsC]
theorem lsC_get (ls : List LeafD) (i k : Nat) (l : LeafD) (hk : k < 15) (hl : ls[i]? = some l) : (lsC ls)[i * 15 + k]? = (lcells l)[k]? := by
  induction ls generalizing i with
  | nil => simp at hl
  | cons a ls ih =>
    have e : lsC (a :: ls) = lcells a ++ lsC ls := rfl
    rw [e]
    cases i with
    | zero =>
      simp at hl; subst hl
      rw [List.getElem?_append_left (by rw [lcells_len]; omega)]; simp
    | succ i =>
      rw [List.getElem?_append_right (by rw [lcells_len]; omega), lcells_len]
      have e2 : (i + 1) * 15 + k - 15 = i * 15 + k := by omega
      rw [e2]
      exact ih i (by simpa using hl)
/-- The walk of a directory. -/
def WalkPost (nd : Nat → Nd) (is : List Nat) (B1 m : Nat) (cs : List LeafD) (w : World) (v : Value) (e : Ending) (w' : World) : Prop :=
  ∃ v' ls, e = .returned (.tuple #[v', .bool true]) ∧ Leaves nd is ls ∧ OwnS w' B1 15 v' (m + ls.length) (lsC (cs ++ ls)) ∧ Grow w v v' w'

end Go.Proofs.YtfppgplboomdbaaGreatDoor

namespace Go.Proofs.YtfppgplboomdbaaGreatDoor
open Go.RowKit

structure RdAt (w : World) (B fp mb pt rd xv : Nat) (ea : Addr) (D : Bs) (es : List PEnt) (rr : RecE) : Prop where
  fs : FsAt w B fp mb pt rd D es
  ent : EntAt w rd rr (.pointer (some ⟨fp, 0, none⟩))
  eof : EofAt w ea
  cap : w.cell? ⟨xv, 0, none⟩ = some (.pointer (some ⟨fp, 0, none⟩))
  rdl : rd < B
  xvl : xv < B
theorem RdAt.keep {w w' : World} {B fp mb pt rd xv : Nat} {ea : Addr} {D : Bs} {es : List PEnt} {rr : RecE} (h : RdAt w B fp mb pt rd xv ea D es rr) (hb : Below B w w') : RdAt w' B fp mb pt rd xv ea D es rr :=
  have h6 := h.fs.b6
  ⟨h.fs.keep hb, h.ent.keepB hb h.rdl, EofAt.keep (B := B) h.eof hb (by omega), (hb.cell (p := ⟨xv, 0, none⟩) h.xvl).trans h.cap, h.rdl, h.xvl⟩
theorem RdAt.below {w w' : World} {B fp mb pt rd xv : Nat} {ea : Addr} {D : Bs} {es : List PEnt} {rr : RecE} (h : RdAt w B fp mb pt rd xv ea D es rr) (hb : Below w.heap.size w w') : RdAt w' B fp mb pt rd xv ea D es rr := h.keep (hb.mono h.fs.hi)
theorem RdAt.grow {w w' : World} {B fp mb pt rd xv m sz : Nat} {v v' : Value} {xs : List Value} {ea : Addr} {D : Bs} {es : List PEnt} {rr : RecE} (h : RdAt w B fp mb pt rd xv ea D es rr) (hg : Grow w v v' w') (ho : OwnS w B sz v m xs) : RdAt w' B fp mb pt rd xv ea D es rr :=
  h.keep (hg.below h.fs.hi (fun _ hk => (ho.own_lt hk).2))
def WalkOK (nd : Nat → Nd) (ks : Nat → List Nat) (B fp mb pt rd xv : Nat) (ea : Addr) (D : Bs) (es : List PEnt) (rr : RecE) (f x0 : Nat) : Prop :=
  ∀ (m : Nat) (s : ByteArray) (v : Value) (cs : List LeafD) (w : World), RdAt w B fp mb pt rd xv ea D es rr → PathOf nd x0 s → OwnS w B 15 v m (lsC cs) → m + (pre nd ks f x0).length ≤ 499 →
    Calls Tryz.prog 59 #[roadsV fp xv, .string s, v] w fun e w' => WalkPost nd (pre nd ks f x0) B m cs w v e w'
theorem Tryz.i52 : (Tryz.prog.info? 52).map (fun i => (i.zero.map fun z => z.cells.size, i.size, i.bytes)) = some (some 15, 15, 120) := by kernel_rfl
theorem make_fn (fn : Fn) (first cap : Array Value) (w : World) : (Instr.makeFunc fn first cap).run Tryz.prog w = .ok (.func fn first cap) w := rfl
theorem fileRead_whole {B fp mb pt rd n P : Nat} {D vol : Bs} {nd : Nat → Nd} {ks : Nat → List Nat} {ds : List Nat} (tr : Tr D nd ks n ds P vol) (y xv : Nat) (s : ByteArray) (rr : RecE) (ea : Addr) (w : World) (hR : RdAt w B fp mb pt rd xv ea D (esOf nd ds) rr) (hrx : rr.ext = (nd 0).ext) (hrs : rr.size = 2048)
    (hy1 : 1 ≤ y) (hy : y < n) (hp : s.data.toList = joinP (pth nd y)) (hfile : (nd y).f.dir = false) :
    Calls Tryz.prog 53 #[.string s, .int .i64 0, .int .i64 (-1), .pointer (some ⟨xv, 0, none⟩)] w fun e w' => e = .returned (.tuple #[.string (nd y).f.data, .bool true]) ∧ Below w.heap.size w w' := by
  have hl : (dataN nd y).length = (nd y).f.data.size := rfl
  have hsm := tr.small y hy
  refine (fileRead_any tr y 0 ((dataN nd y).length - 0) xv (-1) s rr ea w hR.fs hR.ent hrx hrs hR.rdl hR.eof hR.cap hy1 hy hp hfile (by omega) (.inl ⟨rfl, rfl⟩) (by omega)).mono (fun e w' h => ?_)
  obtain ⟨h1, h2⟩ := h
  have e1 : (⟨(((dataN nd y).drop 0).take ((dataN nd y).length - 0)).toArray⟩ : ByteArray) = (nd y).f.data := by
    rw [List.drop_zero, Nat.sub_zero, List.take_length]; rfl
  rw [e1] at h1
  exact ⟨h1, h2⟩
theorem row_set14 {w : World} {b : Nat} {L : LeafD} {d : ByteArray} (h : w.rangeAt b 0 (lcells L)) : (w.setCell ⟨b, 14, none⟩ (.string d)).rangeAt b 0 (lcells { L with data := d }) := by
  have h14 : w.cell? ⟨b, 14, none⟩ = some (.string L.data) := by have := h 14 _ rfl; rwa [Nat.zero_add] at this
  intro j v hv
  rw [Nat.zero_add]
  by_cases hj : j = 14
  · subst hj
    have e : v = .string d := by injection hv with hv; exact hv.symm
    rw [e]
    exact cell_set_same h14 _
  · have hv2 : (lcells L)[j]? = some v := by
      have e : lcells { L with data := d } = (lcells L).set 14 (.string d) := rfl
      rw [e, List.getElem?_set_ne (Ne.symm hj)] at hv
      exact hv
    have h2 := h j v hv2
    rw [Nat.zero_add] at h2
    rw [← h2]
    have := World.cell?_setCells_out b [Value.string d] 14 w ⟨b, j, none⟩ (fun _ _ => by show j < 14 ∨ 14 + 1 ≤ j; omega)
    simpa [World.setCells] using this
set_option maxHeartbeats 1600000 in
set_option maxRecDepth 100000 in
theorem walk_step {B fp mb pt rd n P : Nat} {D vol : Bs} {nd : Nat → Nd} {ks : Nat → List Nat} {ds : List Nat} (tr : Tr D nd ks n ds P vol) (xv : Nat) (rr : RecE) (ea : Addr) (hrx : rr.ext = (nd 0).ext) (hrs : rr.size = 2048) (f x0 : Nat) (hx : x0 < n) (hdx : (nd x0).f.dir = true)
    (IH : ∀ k ∈ ks x0, (nd k).f.dir = true → WalkOK nd ks B fp mb pt rd xv ea D (esOf nd ds) rr f k) : WalkOK nd ks B fp mb pt rd xv ea D (esOf nd ds) rr (f + 1) x0 := by
  intro m s v cs w hR hp hown hm
  obtain ⟨ad0, cap0, rfl⟩ := hown.slice
  have HIH := Lib.hid IH
  have HR := Lib.hid hR
  have HP := Lib.hid hp
  have HOW := Lib.hid hown
  have HM := Lib.hid hm
  have hlt0 : ∀ k, (Value.slice ad0 m cap0).ownBlock = some k → k < w.heap.size := fun k hk => (hown.own_lt hk).1
  have HLT := Lib.hid hlt0
  clear IH hR hp hown hm hlt0
  go_enter Tryz.func59, Tryz.ntmps59
  go_upto_region 1 with (fail)
  generalize hw1 : w.alloc _ = w1
  have hrow1 : w1.heap[w.heap.size]? = some (.cells #[fnV 50 fp, fnV 51 fp, fnV 52 fp, .func (.func 53) #[] #[.pointer (some ⟨xv, 0, none⟩)]] 73 (0, 0)) := by rw [← hw1]; exact heap_alloc_new w _
  have hb1 : Below w.heap.size w w1 := by rw [← hw1]; exact (Below.refl _ _).alloc (Nat.le_refl _) _
  have hsz1 : w1.heap.size = w.heap.size + 1 := by rw [← hw1]; simp
  have hR1 := HR.out.below hb1
  have f1 : w1.cell? ⟨w.heap.size, 1, none⟩ = some (fnV 51 fp) := (cell_of_row _ _ 1 _ _ _ hrow1).trans rfl
  unfold fnV at f1
  have HC := Lib.hid (readDir_full tr x0 s rr w1 hR1.fs hR1.ent hrx hrs hR1.rdl hx hdx HP.out)
  have HR1 := Lib.hid hR1
  have HB1 := Lib.hid hb1
  have HROW1 := Lib.hid hrow1
  clear hrow1 hb1 hR1 hw1
  go_upto_region 4 with (first
    | (go_at_call 51
       refine HC.out.mono ?_
       rintro e w3 ⟨vr, ps, rfl, hov, hk, hb3, hlo⟩
       have HOV := Lib.hid hov
       have HK := Lib.hid hk
       have HB3 := Lib.hid hb3
       have HLO := Lib.hid hlo
       have hs3 := hb3.size
       clear hov hk hb3 hlo))
  obtain ⟨adr, capr, rfl⟩ := HOV.out.slice
  have hb03 : Below w.heap.size w w3 := HB1.out.trans (HB3.out.mono (by omega))
  have hlen := HK.out.len
  have hR3 := HR1.out.below HB3.out
  have hown3 := HOW.out.below hb03
  have HR3 := Lib.hid hR3
  have HOW3 := Lib.hid hown3
  have HLEN := Lib.hid hlen
  have hpl1 : ps.length ≤ 1000 := by
    have hf := tr.few
    have := length_le_of_nodup n (ks x0) (tr.tree.nodup _ (by omega)) (fun x hx => ((tr.tree.mem _ (by omega) x).1 hx).2.1)
    omega
  have hsz3 : w.heap.size < w3.heap.size := by omega
  clear hb03 hlen hR3 hown3 hs3
  go_wp2
  go_loopw [2, 29] (fun lv iv wr => ∃ (q mq cap : Nat) (ad : Option Addr) (ls : List LeafD), iv = .int .i64 (q : Int) ∧ q ≤ ps.length ∧ lv = .slice ad mq cap ∧ mq = m + ls.length ∧ OwnS wr B 15 (.slice ad mq cap) mq (lsC (cs ++ ls)) ∧ Leaves nd (pre1 nd ks f x0 q) ls ∧ Grow w3 (.slice ad0 m cap0) (.slice ad mq cap) wr) (fun _ iv _ => ps.length - (intOf iv).toNat)
  case atStart => exact ⟨0, m, cap0, ad0, [], rfl, Nat.zero_le _, rfl, by simp, by rw [List.append_nil]; exact HOW3.out, Leaves.nil _, Grow.refl _ _⟩
  case round =>
    obtain ⟨q, mq, cap, ad, ls, rfl, hq, rfl, hmq, hown, hlv, hgr⟩ := hrel
    obtain ⟨w0, rfl⟩ : ∃ w0 : World, w0 = wr := ⟨_, rfl⟩
    have hRr := HR3.out.grow hgr HOW3.out
    have hsz0 := hgr.size
    have hother : ∀ k, w.heap.size ≤ k → k < w3.heap.size → w0.heap[k]? = w3.heap[k]? := fun k h1 h2 => hgr.other k h2 (fun e => by have := HLT.out k e; omega)
    have hrow0 : w0.heap[w.heap.size]? = some (.cells #[fnV 50 fp, fnV 51 fp, fnV 52 fp, .func (.func 53) #[] #[.pointer (some ⟨xv, 0, none⟩)]] 73 (0, 0)) := (hother _ (by omega) (by omega)).trans ((HB3.out.block _ (by omega)).trans HROW1.out)
    have HOWN := Lib.hid hown
    have HLV := Lib.hid hlv
    have HGR := Lib.hid hgr
    have HRR := Lib.hid hRr
    have HMQ := Lib.hid hmq
    have HOTHER := Lib.hid hother
    have HROW0 := Lib.hid hrow0
    clear hown hlv hgr hRr hmq hother hrow0
    by_cases hql : q < ps.length
    · obtain ⟨p, hp⟩ : ∃ p, ps[q]? = some p := ⟨ps[q], List.getElem?_eq_getElem hql⟩
      obtain ⟨k, hk⟩ : ∃ k, (ks x0)[q]? = some k := ⟨(ks x0)[q]'(by have := HLEN.out; omega), List.getElem?_eq_getElem _⟩
      have hkm : k ∈ ks x0 := List.mem_of_getElem? hk
      have hk2 := (tr.tree.mem x0 hx k).1 hkm
      obtain ⟨r, hE3, hnm, hri⟩ := HK.out.ent q k p hk hp
      have hp1 := HLO.out q p hp
      have hE0 : EntAt w0 p r (.pointer (some ⟨fp, 0, none⟩)) := by
        have hpl3 := hE3.full.2.2.2.2.2.2.2
        obtain ⟨a, b, c, ge, h1⟩ := hE3
        exact ⟨a, b, c, ge, (HOTHER.out p (by omega) hpl3).trans h1⟩
      obtain ⟨gr, rfl⟩ : ∃ gr, adr = some ⟨gr, 0, none⟩ := by
        obtain ⟨gr, cap', e⟩ := HOV.out.pos (by omega)
        injection e with e1 e2 e3
        exact ⟨gr, e1⟩
      have hgl := HOV.out.lt
      have hgc : w0.cell? ⟨gr, q, none⟩ = some (.iface 111 (.pointer (some ⟨p, 0, none⟩))) := by
        rw [World.cell?_of_block (w := w3) (a := ⟨gr, q, none⟩) (HOTHER.out gr (by omega) hgl.1)]
        exact HOV.out.cell (j := q) (u := ifV p) (by rw [List.getElem?_map, hp]; rfl)
      have f2 : w0.cell? ⟨w.heap.size, 2, none⟩ = some (fnV 52 fp) := (cell_of_row _ _ 2 _ _ _ HROW0.out).trans rfl
      unfold fnV at f2
      obtain ⟨NN, hNN⟩ : ∃ NN : ByteArray, (⟨(nameOfR r).toArray⟩ : ByteArray) = NN := ⟨_, rfl⟩
      have hN2 : NN.data.toList = nmN nd k := by rw [← hNN]; exact hnm
      have HNM := name_any p fp r w0 hE0 HRR.out.fs.se (rec_small tr.good hk2.1 hk2.2.1 hri)
      rw [hNN] at HNM
      have HNAME := Lib.hid HNM
      have hNs : NN.size ≤ 1000000 := by
        have h1 := (tr.good.name k hk2.1 hk2.2.1).le
        have h2 : NN.size = NN.data.toList.length := rfl
        rw [h2, hN2]; omega
      have hss := (HP.out.facts tr.good hx).1
      have hkp := kid_path tr.tree tr.good hx hkm HP.out NN hN2
      clear hE0 hE3 hNN HNM hp
      have hlq : mq + 1 + (if (nd k).f.dir then pre nd ks f k else []).length ≤ 499 := by
        have h1 := pre1_le nd ks f x0 (q + 1)
        rw [pre1_succ hk, List.length_append, List.length_cons] at h1
        have h2 := HLV.out.len
        have h3 := HM.out
        have h4 := HMQ.out
        omega
      have HLQ := Lib.hid hlq
      have hmq5 : mq ≤ 498 := by omega
      clear hlq
      have HK2 := Lib.hid hk2
      have HKK := Lib.hid hk
      clear hk2 hk hnm
      rcases hkp with ⟨hs46, hpk⟩ | ⟨hs46, hspos, hpk⟩
      · have hb46 : (s.toList == [46]) = true := by simp only [ByteArray.toList_eq]; simpa using hs46
        have HPK := Lib.hid hpk
        clear hpk hs46
        go_upto_region 10 with (first
          | (go_at_call 75
             refine HNAME.out.mono ?_
             rintro e w4 ⟨rfl, hw⟩
             rw [hw]
             clear hw))
        obtain ⟨S, rfl⟩ : ∃ S : ByteArray, S = NN := ⟨_, rfl⟩
        obtain ⟨z, hz, hz1⟩ : ∃ z : Nat, (nd k).size = (z : Int) ∧ z ≤ 1000000 := by
          have h1 := tr.size k HK2.out.2.1
          have h2 := tr.small k HK2.out.2.1
          rw [h1]
          unfold sizeOfN
          split
          · exact ⟨2048, rfl, by omega⟩
          · exact ⟨_, rfl, by omega⟩
        have HST := Lib.hid (stat_any tr k S rr w0 HRR.out.fs HRR.out.ent hrx hrs HRR.out.rdl HK2.out.1 HK2.out.2.1 HPK.out)
        have h500 : ¬ (500 : Int) ≤ (mq : Int) := by omega
        have hll : ∀ L : LeafD, (Tryz.prog.info? 52).map (·.size) = some 15 := fun _ => rfl
        have hli : ∀ L : LeafD, (Tryz.prog.info? 52).map (·.size) = some (lcells L).toArray.size := fun _ => rfl
        go_upto_region 13 with (first
          | (go_at_call 52
             refine HST.out.mono ?_
             rintro e w5 ⟨p2, r2, rfl, hE2, hri2, hnm2, hb5⟩
             have HE2 := Lib.hid hE2
             have HRI2 := Lib.hid hri2
             have HNM2 := Lib.hid hnm2
             have HB5 := Lib.hid hb5
             have hs5 := hb5.size
             clear hE2 hri2 hnm2 hb5))
        have hlf : Calls Tryz.prog 77 #[.string S, ifV p2] w5 _ := leaf_any S p2 fp z r2 w5 HE2.out (HRR.out.below HB5.out).fs.se (rec_small tr.good HK2.out.1 HK2.out.2.1 HRI2.out) (by rw [HRI2.out.size, hz]) hz1
        have HLF := Lib.hid hlf
        have HZ := Lib.hid hz
        clear hlf hz
        go_upto_region 14 with (first
          | (go_at_call 77
             refine HLF.out.mono ?_
             rintro e w6 ⟨⟨L, rfl, hLp, hLn, hLd, hLz, hLe⟩, hb6⟩
             have HB6 := Lib.hid hb6
             have HLP := Lib.hid hLp
             have HLN := Lib.hid hLn
             have HLD := Lib.hid hLd
             have HLZ := Lib.hid hLz
             have HLE := Lib.hid hLe
             have hs6 := hb6.size
             clear hb6 hLp hLn hLd hLz hLe)
          | (refine wpList_store_fresh rfl 52 (.tmp 15) (.tmp 58) rfl _ 52 (lcells L).toArray rfl rfl rfl (hli L) (by simp [lcells, Value.oneCell']) ?_
             intro w7 hF
             have HF7 := Lib.hid hF
             clear hF))
        have hLdir : L.dir = (nd k).f.dir := by rw [HLD.out, HRI2.out.dir]
        have hb07 : Below w0.heap.size w0 w7 := (HB5.out.trans (HB6.out.mono hs5)).trans (HF7.out.below.mono (by omega))
        have hs7 : w7.heap.size = w6.heap.size + 1 := HF7.out.size
        have c2 : w7.cell? ⟨w6.heap.size, 2, none⟩ = some (.bool L.dir) := by have h := HF7.out.range 2 _ rfl; rwa [Nat.zero_add] at h
        have c3 : w7.cell? ⟨w6.heap.size, 3, none⟩ = some (.bool false) := by have h := HF7.out.range 3 _ rfl; rwa [Nat.zero_add] at h
        have c4 : w7.cell? ⟨w6.heap.size, 4, none⟩ = some (.bool false) := by have h := HF7.out.range 4 _ rfl; rwa [Nat.zero_add] at h
        have hbl0 : ∀ g, (Value.slice ad mq cap).ownBlock = some g → g < w0.heap.size := fun g hg => (HOWN.out.own_lt hg).1
        have HB07 := Lib.hid hb07
        have HBL0 := Lib.hid hbl0
        have HS7 := Lib.hid hs7
        have hs07 : w0.heap.size ≤ w6.heap.size := by omega
        obtain ⟨i52, z52, hi52, hz52, hs52, hb52, hc52⟩ := info_parts3 Tryz.i52
        have HLDR := Lib.hid hLdir
        clear hb07 hbl0 hs7 h500
        have hne0 : ∀ g, (Value.slice ad mq cap).ownBlock = some g → g ≠ w.heap.size := fun g hg => by
          rcases HGR.out.block g hg with e | e
          · have := HLT.out g e; omega
          · omega
        have HNE0 := Lib.hid hne0
        have HC2 := Lib.hid c2
        have hlp : L.path.data.toList = (nd k).f.path.data.toList := by rw [HLP.out, HPK.out, tr.good.path k HK2.out.2.1]
        have hln : L.name.data.toList = nmN nd k := by rw [HLN.out, HNM2.out]
        have HLPP := Lib.hid hlp
        have HLNN := Lib.hid hln
        clear hne0 hlp hln
        cases hd : (nd k).f.dir with
        | true =>
          rw [hLdir, hd] at c2
          go_upto_region 16 with (fail)
          have hrgA : w7.rangeAt w6.heap.size 0 [.string L.path, .string L.name, .bool L.dir, .bool false, .bool false, .int .u32 L.perm, .int .i64 L.size, .int .i64 L.time, .int .u32 0, .int .u32 0, .int .u32 0, .int .u32 0, .string ⟨#[]⟩, .string ⟨#[]⟩, .string L.data] := HF7.out.range
          have HRGA := Lib.hid hrgA
          clear c2 c3 c4 hrgA hLdir
          have HOW7 := Lib.hid (HOWN.out.below HB07.out)
          have hs7 : w7.heap.size = w6.heap.size + 1 := HS7.out
          have HS77 := Lib.hid hs7
          clear hs7
          have hs7l : w6.heap.size < w7.heap.size := by have := HS77.out; omega
          go_upto_region 17 with (first
            | (refine wpList_load_mid rfl 52 (.tmp 15) rfl w6.heap.size 0 rfl _ _ HRGA.out Tryz.underlying52 rfl (hll L) ?_)
            | (refine wpList_append_ownS' rfl (.tmp 80) (.tmp 82) 29 rfl B 52 i52 z52 15 120 Tryz.underlying29 hi52 hz52 hs52 hb52 hc52 (by decide) (.slice ad mq cap) mq _ rfl (HOW7.out.alloc _) ⟨w7.heap.size, 0, none⟩ 1 1 (lcells L) rfl rfl (row_at w7 _ 52) (lcells_one L) (by omega) (by unfold maxLen; omega) (by omega) (by have := HRR.out.fs.hi; simp; omega) ?_
               intro v10 w10 hA
               have HA := Lib.hid hA
               clear hA))
          obtain ⟨ad10, cap10, rfl⟩ := HA.out.own.slice
          have hgr10 : Grow w0 (.slice ad mq cap) (.slice ad10 (mq + 1) cap10) w10 := (Grow.new _ (HB07.out.alloc (by omega) _)).trans (Grow.app HA.out)
          have hblk10 : w10.heap[w6.heap.size]? = w7.heap[w6.heap.size]? := (HA.out.other w6.heap.size (by simp; omega) (fun e => by have := HBL0.out _ e; omega)).trans (Below.heap_alloc w7 _ _ (by omega))
          have hown10 := HA.out.own
          have e10 : lsC (cs ++ ls) ++ lcells L = lsC (cs ++ (ls ++ [L])) := by rw [← List.append_assoc, lsC_append (cs ++ ls), lsC_one]
          rw [e10] at hown10
          have hs10 := HA.out.grew
          rw [World.size_alloc] at hs10
          have HGR10 := Lib.hid hgr10
          have HOWN10 := Lib.hid hown10
          clear hgr10 hown10 e10 HA
          have hLI : LeafIs nd k L := ⟨HLPP.out, HLNN.out, HLDR.out, fun h => by rw [hd] at h; cases h⟩
          have HLI := Lib.hid hLI
          have c2 : w10.cell? ⟨w6.heap.size, 2, none⟩ = some (.bool true) := by
            rw [World.cell?_of_block (w := w7) (a := ⟨w6.heap.size, 2, none⟩) hblk10, HC2.out, HLDR.out, hd]
          have hrow10 : w10.heap[w.heap.size]? = w0.heap[w.heap.size]? := HGR10.out.other _ (by omega) (fun e => HNE0.out _ e rfl)
          obtain ⟨RC, hRC⟩ : ∃ RC : List Value, RC = [fnV 50 fp, fnV 51 fp, fnV 52 fp, .func (.func 53) #[] #[.pointer (some ⟨xv, 0, none⟩)]] := ⟨_, rfl⟩
          have hrv : roadsV fp xv = .agg RC.toArray := by rw [hRC]; rfl
          have hrc : w10.rangeAt w.heap.size 0 RC := fun j v hv => by
            rw [Nat.zero_add]
            refine (cell_of_row _ _ j _ _ _ (hrow10.trans HROW0.out)).trans ?_
            rw [hRC] at hv
            simpa using hv
          have hi4 : (Tryz.prog.info? 73).map (·.size) = some RC.length := by rw [hRC]; rfl
          have hlq := HLQ.out
          rw [if_pos hd] at hlq
          have hcall := HIH.out k hkm hd (mq + 1) S (.slice ad10 (mq + 1) cap10) (cs ++ (ls ++ [L])) w10 (HRR.out.grow HGR10.out HOWN.out) (.inr ⟨HK2.out.1, HPK.out⟩) HOWN10.out hlq
          rw [hrv] at hcall
          have HCALL := Lib.hid hcall
          have HRC := Lib.hid hrc
          have HI4 := Lib.hid hi4
          clear hcall hrc hi4 hrv hRC hrow10 hLI hblk10 hlq
          go_upto_region 18 with (fail)
          go_upto_region 19 with (first
            | (refine wpList_load_mid rfl 73 (.tmp 3) rfl w.heap.size 0 rfl RC _ HRC.out Tryz.underlying73 rfl HI4.out ?_)
            | (go_at_call 59
               refine HCALL.out.mono ?_
               rintro e w11 ⟨v11, ls2, rfl, hl2, hown11, hg11⟩
               have HL2 := Lib.hid hl2
               have HOWN11 := Lib.hid hown11
               have HG11 := Lib.hid hg11
               clear hl2 hown11 hg11))
          obtain ⟨ad11, cap11, rfl⟩ := HOWN11.out.slice
          go_wp2
          go_roundw
          case rel =>
            refine ⟨q + 1, mq + 1 + ls2.length, cap11, ad11, ls ++ ([L] ++ ls2), by go_num, by omega, rfl, ?_, ?_, ?_, HGR.out.trans (HGR10.out.trans HG11.out)⟩
            · have := HMQ.out
              simp; omega
            · have h := HOWN11.out
              have e : cs ++ (ls ++ [L]) ++ ls2 = cs ++ (ls ++ ([L] ++ ls2)) := by simp
              rw [e] at h
              exact h
            · rw [pre1_succ HKK.out, if_pos hd]
              exact HLV.out.append ((Leaves.one HLI.out).append HL2.out)
          case measure => simp [intOf]; omega
        | false =>
          rw [hLdir, hd] at c2
          have hR7 := HRR.out.below HB07.out
          have hFR := fileRead_whole tr k xv S rr ea w7 hR7 hrx hrs HK2.out.1 HK2.out.2.1 HPK.out hd
          obtain ⟨DD, hDD⟩ : ∃ DD, (nd k).f.data = DD := ⟨_, rfl⟩
          rw [hDD] at hFR
          have HDD := Lib.hid hDD
          have HFR := Lib.hid hFR
          have f3 : w7.cell? ⟨w.heap.size, 3, none⟩ = some (.func (.func 53) #[] #[.pointer (some ⟨xv, 0, none⟩)]) := by
            rw [World.cell?_of_block (w := w0) (a := ⟨w.heap.size, 3, none⟩) (HB07.out.block w.heap.size (by omega))]
            exact (cell_of_row _ _ 3 _ _ _ HROW0.out).trans rfl
          have hs7l : w6.heap.size < w7.heap.size := by have := HS7.out; omega
          clear hR7 hFR hDD
          go_upto_region 15 with (fail)
          clear c2 c3 c4
          go_upto_region 16 with (first
            | (go_at_call 53
               refine HFR.out.mono ?_
               rintro e w8 ⟨rfl, hb8⟩
               have hc14 : w8.cell? ⟨w6.heap.size, 14, none⟩ = some (.string L.data) := by
                 rw [World.cell?_of_block (w := w7) (a := ⟨w6.heap.size, 14, none⟩) (hb8.block _ hs7l)]
                 have h := HF7.out.range 14 _ rfl
                 rwa [Nat.zero_add] at h
               have hf14 : w8.frozen? ⟨w6.heap.size, 14, none⟩ = false := by
                 rw [World.frozen?_of_block (w := w7) (a := ⟨w6.heap.size, 14, none⟩) (hb8.block _ hs7l)]
                 have h := (HF7.out.there 14 (by show 14 < 15; omega)).2
                 rwa [Nat.zero_add] at h
               have HB8 := Lib.hid hb8
               have hs8 := hb8.size
               clear hb8))
          have hrg8 : w8.rangeAt w6.heap.size 0 (lcells L) := fun j v hv => by
            rw [World.cell?_of_block (w := w7) (a := ⟨w6.heap.size, 0 + j, none⟩) (HB8.out.block _ hs7l)]
            exact HF7.out.range j v hv
          have hrgA := row_set14 (d := DD) hrg8
          have hb09 : Below w0.heap.size w0 (w8.setCell ⟨w6.heap.size, 14, none⟩ (.string DD)) := (HB07.out.trans (HB8.out.mono (by omega))).setCell (by show w0.heap.size ≤ w6.heap.size; omega) _
          have hs9 : (w8.setCell ⟨w6.heap.size, 14, none⟩ (.string DD)).heap.size = w8.heap.size := by simp only [World.setCell]; rw [Array.size_modify]
          clear hc14 hf14 hrg8 f3
          generalize w8.setCell ⟨w6.heap.size, 14, none⟩ (.string DD) = w9 at hrgA hb09 hs9 ⊢
          obtain ⟨L9, hL9⟩ : ∃ L9 : LeafD, L9 = { L with data := DD } := ⟨_, rfl⟩
          rw [← hL9] at hrgA
          have hLI : LeafIs nd k L9 := by
            rw [hL9]
            refine ⟨HLPP.out, HLNN.out, HLDR.out, fun _ => ⟨HDD.out.symm, ?_⟩⟩
            show L.size = _
            have h1 := tr.size k HK2.out.2.1
            unfold sizeOfN at h1
            rw [if_neg (by rw [hd]; simp)] at h1
            rw [HLZ.out, ← HZ.out, h1]
          have hd9 : L9.dir = false := by rw [hL9]; show L.dir = false; rw [HLDR.out, hd]
          have hrgA9 : w9.rangeAt w6.heap.size 0 [.string L9.path, .string L9.name, .bool L9.dir, .bool false, .bool false, .int .u32 L9.perm, .int .i64 L9.size, .int .i64 L9.time, .int .u32 0, .int .u32 0, .int .u32 0, .int .u32 0, .string ⟨#[]⟩, .string ⟨#[]⟩, .string L9.data] := hrgA
          have HRGA := Lib.hid hrgA9
          have HB09 := Lib.hid hb09
          have HLI := Lib.hid hLI
          have HD9 := Lib.hid hd9
          have hs9l : w6.heap.size < w9.heap.size := by omega
          have HOW9 := Lib.hid (HOWN.out.below hb09)
          clear hrgA hrgA9 hb09 hs9 hL9 hLI hd9 hLdir
          go_upto_region 17 with (first
            | (refine wpList_load_mid rfl 52 (.tmp 15) rfl w6.heap.size 0 rfl _ _ HRGA.out Tryz.underlying52 rfl (hll L) ?_)
            | (refine wpList_append_ownS' rfl (.tmp 80) (.tmp 82) 29 rfl B 52 i52 z52 15 120 Tryz.underlying29 hi52 hz52 hs52 hb52 hc52 (by decide) (.slice ad mq cap) mq _ rfl (HOW9.out.alloc _) ⟨w9.heap.size, 0, none⟩ 1 1 (lcells L9) rfl rfl (row_at w9 _ 52) (lcells_one L9) (by omega) (by unfold maxLen; omega) (by omega) (by have := HRR.out.fs.hi; simp; omega) ?_
               intro v10 w10 hA
               have HA := Lib.hid hA
               clear hA))
          obtain ⟨ad10, cap10, rfl⟩ := HA.out.own.slice
          have hgr10 : Grow w0 (.slice ad mq cap) (.slice ad10 (mq + 1) cap10) w10 := (Grow.new _ (HB09.out.alloc (by omega) _)).trans (Grow.app HA.out)
          have hblk10 : w10.heap[w6.heap.size]? = w9.heap[w6.heap.size]? := (HA.out.other w6.heap.size (by simp; omega) (fun e => by have := HBL0.out _ e; omega)).trans (Below.heap_alloc w9 _ _ (by omega))
          have hown10 := HA.out.own
          have e10 : lsC (cs ++ ls) ++ lcells L9 = lsC (cs ++ (ls ++ [L9])) := by rw [← List.append_assoc, lsC_append (cs ++ ls), lsC_one]
          rw [e10] at hown10
          have hs10 := HA.out.grew
          rw [World.size_alloc] at hs10
          have HGR10 := Lib.hid hgr10
          have HOWN10 := Lib.hid hown10
          clear hgr10 hown10 e10 HA
          have c2 : w10.cell? ⟨w6.heap.size, 2, none⟩ = some (.bool false) := by
            rw [World.cell?_of_block (w := w9) (a := ⟨w6.heap.size, 2, none⟩) hblk10]
            have h := HRGA.out 2 _ rfl
            rw [Nat.zero_add, HD9.out] at h
            exact h
          clear hblk10
          go_wp2
          go_roundw
          case rel =>
            refine ⟨q + 1, mq + 1, cap10, ad10, ls ++ [L9], by go_num, by omega, rfl, ?_, HOWN10.out, ?_, HGR.out.trans HGR10.out⟩
            · have := HMQ.out
              simp; omega
            · rw [pre1_succ HKK.out, if_neg (by rw [hd]; simp)]
              exact HLV.out.append (Leaves.one HLI.out)
          case measure => simp [intOf]; omega
      · have hb46 : (s.toList == [46]) = false := by simp only [ByteArray.toList_eq]; simpa using hs46
        have HPK := Lib.hid hpk
        clear hpk hs46
        go_upto_region 10 with (first
          | (go_at_call 75
             refine HNAME.out.mono ?_
             rintro e w4 ⟨rfl, hw⟩
             rw [hw]
             clear hw))
        obtain ⟨S, hSS⟩ : ∃ S : ByteArray, s ++ ⟨#[47]⟩ ++ NN = S := ⟨_, rfl⟩
        rw [hSS]
        have hpS : S.data.toList = joinP (pth nd k) := by
          rw [← HPK.out, ← hSS]; simp
        clear HPK
        have HPK := Lib.hid hpS
        clear hpS hSS
        obtain ⟨z, hz, hz1⟩ : ∃ z : Nat, (nd k).size = (z : Int) ∧ z ≤ 1000000 := by
          have h1 := tr.size k HK2.out.2.1
          have h2 := tr.small k HK2.out.2.1
          rw [h1]
          unfold sizeOfN
          split
          · exact ⟨2048, rfl, by omega⟩
          · exact ⟨_, rfl, by omega⟩
        have HST := Lib.hid (stat_any tr k S rr w0 HRR.out.fs HRR.out.ent hrx hrs HRR.out.rdl HK2.out.1 HK2.out.2.1 HPK.out)
        have h500 : ¬ (500 : Int) ≤ (mq : Int) := by omega
        have hll : ∀ L : LeafD, (Tryz.prog.info? 52).map (·.size) = some 15 := fun _ => rfl
        have hli : ∀ L : LeafD, (Tryz.prog.info? 52).map (·.size) = some (lcells L).toArray.size := fun _ => rfl
        go_upto_region 13 with (first
          | (go_at_call 52
             refine HST.out.mono ?_
             rintro e w5 ⟨p2, r2, rfl, hE2, hri2, hnm2, hb5⟩
             have HE2 := Lib.hid hE2
             have HRI2 := Lib.hid hri2
             have HNM2 := Lib.hid hnm2
             have HB5 := Lib.hid hb5
             have hs5 := hb5.size
             clear hE2 hri2 hnm2 hb5))
        have hlf : Calls Tryz.prog 77 #[.string S, ifV p2] w5 _ := leaf_any S p2 fp z r2 w5 HE2.out (HRR.out.below HB5.out).fs.se (rec_small tr.good HK2.out.1 HK2.out.2.1 HRI2.out) (by rw [HRI2.out.size, hz]) hz1
        have HLF := Lib.hid hlf
        have HZ := Lib.hid hz
        clear hlf hz
        go_upto_region 14 with (first
          | (go_at_call 77
             refine HLF.out.mono ?_
             rintro e w6 ⟨⟨L, rfl, hLp, hLn, hLd, hLz, hLe⟩, hb6⟩
             have HB6 := Lib.hid hb6
             have HLP := Lib.hid hLp
             have HLN := Lib.hid hLn
             have HLD := Lib.hid hLd
             have HLZ := Lib.hid hLz
             have HLE := Lib.hid hLe
             have hs6 := hb6.size
             clear hb6 hLp hLn hLd hLz hLe)
          | (refine wpList_store_fresh rfl 52 (.tmp 15) (.tmp 58) rfl _ 52 (lcells L).toArray rfl rfl rfl (hli L) (by simp [lcells, Value.oneCell']) ?_
             intro w7 hF
             have HF7 := Lib.hid hF
             clear hF))
        have hLdir : L.dir = (nd k).f.dir := by rw [HLD.out, HRI2.out.dir]
        have hb07 : Below w0.heap.size w0 w7 := (HB5.out.trans (HB6.out.mono hs5)).trans (HF7.out.below.mono (by omega))
        have hs7 : w7.heap.size = w6.heap.size + 1 := HF7.out.size
        have c2 : w7.cell? ⟨w6.heap.size, 2, none⟩ = some (.bool L.dir) := by have h := HF7.out.range 2 _ rfl; rwa [Nat.zero_add] at h
        have c3 : w7.cell? ⟨w6.heap.size, 3, none⟩ = some (.bool false) := by have h := HF7.out.range 3 _ rfl; rwa [Nat.zero_add] at h
        have c4 : w7.cell? ⟨w6.heap.size, 4, none⟩ = some (.bool false) := by have h := HF7.out.range 4 _ rfl; rwa [Nat.zero_add] at h
        have hbl0 : ∀ g, (Value.slice ad mq cap).ownBlock = some g → g < w0.heap.size := fun g hg => (HOWN.out.own_lt hg).1
        have HB07 := Lib.hid hb07
        have HBL0 := Lib.hid hbl0
        have HS7 := Lib.hid hs7
        have hs07 : w0.heap.size ≤ w6.heap.size := by omega
        obtain ⟨i52, z52, hi52, hz52, hs52, hb52, hc52⟩ := info_parts3 Tryz.i52
        have HLDR := Lib.hid hLdir
        clear hb07 hbl0 hs7 h500
        have hne0 : ∀ g, (Value.slice ad mq cap).ownBlock = some g → g ≠ w.heap.size := fun g hg => by
          rcases HGR.out.block g hg with e | e
          · have := HLT.out g e; omega
          · omega
        have HNE0 := Lib.hid hne0
        have HC2 := Lib.hid c2
        have hlp : L.path.data.toList = (nd k).f.path.data.toList := by rw [HLP.out, HPK.out, tr.good.path k HK2.out.2.1]
        have hln : L.name.data.toList = nmN nd k := by rw [HLN.out, HNM2.out]
        have HLPP := Lib.hid hlp
        have HLNN := Lib.hid hln
        clear hne0 hlp hln
        cases hd : (nd k).f.dir with
        | true =>
          rw [hLdir, hd] at c2
          go_upto_region 16 with (fail)
          have hrgA : w7.rangeAt w6.heap.size 0 [.string L.path, .string L.name, .bool L.dir, .bool false, .bool false, .int .u32 L.perm, .int .i64 L.size, .int .i64 L.time, .int .u32 0, .int .u32 0, .int .u32 0, .int .u32 0, .string ⟨#[]⟩, .string ⟨#[]⟩, .string L.data] := HF7.out.range
          have HRGA := Lib.hid hrgA
          clear c2 c3 c4 hrgA hLdir
          have HOW7 := Lib.hid (HOWN.out.below HB07.out)
          have hs7 : w7.heap.size = w6.heap.size + 1 := HS7.out
          have HS77 := Lib.hid hs7
          clear hs7
          have hs7l : w6.heap.size < w7.heap.size := by have := HS77.out; omega
          go_upto_region 17 with (first
            | (refine wpList_load_mid rfl 52 (.tmp 15) rfl w6.heap.size 0 rfl _ _ HRGA.out Tryz.underlying52 rfl (hll L) ?_)
            | (refine wpList_append_ownS' rfl (.tmp 80) (.tmp 82) 29 rfl B 52 i52 z52 15 120 Tryz.underlying29 hi52 hz52 hs52 hb52 hc52 (by decide) (.slice ad mq cap) mq _ rfl (HOW7.out.alloc _) ⟨w7.heap.size, 0, none⟩ 1 1 (lcells L) rfl rfl (row_at w7 _ 52) (lcells_one L) (by omega) (by unfold maxLen; omega) (by omega) (by have := HRR.out.fs.hi; simp; omega) ?_
               intro v10 w10 hA
               have HA := Lib.hid hA
               clear hA))
          obtain ⟨ad10, cap10, rfl⟩ := HA.out.own.slice
          have hgr10 : Grow w0 (.slice ad mq cap) (.slice ad10 (mq + 1) cap10) w10 := (Grow.new _ (HB07.out.alloc (by omega) _)).trans (Grow.app HA.out)
          have hblk10 : w10.heap[w6.heap.size]? = w7.heap[w6.heap.size]? := (HA.out.other w6.heap.size (by simp; omega) (fun e => by have := HBL0.out _ e; omega)).trans (Below.heap_alloc w7 _ _ (by omega))
          have hown10 := HA.out.own
          have e10 : lsC (cs ++ ls) ++ lcells L = lsC (cs ++ (ls ++ [L])) := by rw [← List.append_assoc, lsC_append (cs ++ ls), lsC_one]
          rw [e10] at hown10
          have hs10 := HA.out.grew
          rw [World.size_alloc] at hs10
          have HGR10 := Lib.hid hgr10
          have HOWN10 := Lib.hid hown10
          clear hgr10 hown10 e10 HA
          have hLI : LeafIs nd k L := ⟨HLPP.out, HLNN.out, HLDR.out, fun h => by rw [hd] at h; cases h⟩
          have HLI := Lib.hid hLI
          have c2 : w10.cell? ⟨w6.heap.size, 2, none⟩ = some (.bool true) := by
            rw [World.cell?_of_block (w := w7) (a := ⟨w6.heap.size, 2, none⟩) hblk10, HC2.out, HLDR.out, hd]
          have hrow10 : w10.heap[w.heap.size]? = w0.heap[w.heap.size]? := HGR10.out.other _ (by omega) (fun e => HNE0.out _ e rfl)
          obtain ⟨RC, hRC⟩ : ∃ RC : List Value, RC = [fnV 50 fp, fnV 51 fp, fnV 52 fp, .func (.func 53) #[] #[.pointer (some ⟨xv, 0, none⟩)]] := ⟨_, rfl⟩
          have hrv : roadsV fp xv = .agg RC.toArray := by rw [hRC]; rfl
          have hrc : w10.rangeAt w.heap.size 0 RC := fun j v hv => by
            rw [Nat.zero_add]
            refine (cell_of_row _ _ j _ _ _ (hrow10.trans HROW0.out)).trans ?_
            rw [hRC] at hv
            simpa using hv
          have hi4 : (Tryz.prog.info? 73).map (·.size) = some RC.length := by rw [hRC]; rfl
          have hlq := HLQ.out
          rw [if_pos hd] at hlq
          have hcall := HIH.out k hkm hd (mq + 1) S (.slice ad10 (mq + 1) cap10) (cs ++ (ls ++ [L])) w10 (HRR.out.grow HGR10.out HOWN.out) (.inr ⟨HK2.out.1, HPK.out⟩) HOWN10.out hlq
          rw [hrv] at hcall
          have HCALL := Lib.hid hcall
          have HRC := Lib.hid hrc
          have HI4 := Lib.hid hi4
          clear hcall hrc hi4 hrv hRC hrow10 hLI hblk10 hlq
          go_upto_region 18 with (fail)
          go_upto_region 19 with (first
            | (refine wpList_load_mid rfl 73 (.tmp 3) rfl w.heap.size 0 rfl RC _ HRC.out Tryz.underlying73 rfl HI4.out ?_)
            | (go_at_call 59
               refine HCALL.out.mono ?_
               rintro e w11 ⟨v11, ls2, rfl, hl2, hown11, hg11⟩
               have HL2 := Lib.hid hl2
               have HOWN11 := Lib.hid hown11
               have HG11 := Lib.hid hg11
               clear hl2 hown11 hg11))
          obtain ⟨ad11, cap11, rfl⟩ := HOWN11.out.slice
          go_wp2
          go_roundw
          case rel =>
            refine ⟨q + 1, mq + 1 + ls2.length, cap11, ad11, ls ++ ([L] ++ ls2), by go_num, by omega, rfl, ?_, ?_, ?_, HGR.out.trans (HGR10.out.trans HG11.out)⟩
            · have := HMQ.out
              simp; omega
            · have h := HOWN11.out
              have e : cs ++ (ls ++ [L]) ++ ls2 = cs ++ (ls ++ ([L] ++ ls2)) := by simp
              rw [e] at h
              exact h
            · rw [pre1_succ HKK.out, if_pos hd]
              exact HLV.out.append ((Leaves.one HLI.out).append HL2.out)
          case measure => simp [intOf]; omega
        | false =>
          rw [hLdir, hd] at c2
          have hR7 := HRR.out.below HB07.out
          have hFR := fileRead_whole tr k xv S rr ea w7 hR7 hrx hrs HK2.out.1 HK2.out.2.1 HPK.out hd
          obtain ⟨DD, hDD⟩ : ∃ DD, (nd k).f.data = DD := ⟨_, rfl⟩
          rw [hDD] at hFR
          have HDD := Lib.hid hDD
          have HFR := Lib.hid hFR
          have f3 : w7.cell? ⟨w.heap.size, 3, none⟩ = some (.func (.func 53) #[] #[.pointer (some ⟨xv, 0, none⟩)]) := by
            rw [World.cell?_of_block (w := w0) (a := ⟨w.heap.size, 3, none⟩) (HB07.out.block w.heap.size (by omega))]
            exact (cell_of_row _ _ 3 _ _ _ HROW0.out).trans rfl
          have hs7l : w6.heap.size < w7.heap.size := by have := HS7.out; omega
          clear hR7 hFR hDD
          go_upto_region 15 with (fail)
          clear c2 c3 c4
          go_upto_region 16 with (first
            | (go_at_call 53
               refine HFR.out.mono ?_
               rintro e w8 ⟨rfl, hb8⟩
               have hc14 : w8.cell? ⟨w6.heap.size, 14, none⟩ = some (.string L.data) := by
                 rw [World.cell?_of_block (w := w7) (a := ⟨w6.heap.size, 14, none⟩) (hb8.block _ hs7l)]
                 have h := HF7.out.range 14 _ rfl
                 rwa [Nat.zero_add] at h
               have hf14 : w8.frozen? ⟨w6.heap.size, 14, none⟩ = false := by
                 rw [World.frozen?_of_block (w := w7) (a := ⟨w6.heap.size, 14, none⟩) (hb8.block _ hs7l)]
                 have h := (HF7.out.there 14 (by show 14 < 15; omega)).2
                 rwa [Nat.zero_add] at h
               have HB8 := Lib.hid hb8
               have hs8 := hb8.size
               clear hb8))
          have hrg8 : w8.rangeAt w6.heap.size 0 (lcells L) := fun j v hv => by
            rw [World.cell?_of_block (w := w7) (a := ⟨w6.heap.size, 0 + j, none⟩) (HB8.out.block _ hs7l)]
            exact HF7.out.range j v hv
          have hrgA := row_set14 (d := DD) hrg8
          have hb09 : Below w0.heap.size w0 (w8.setCell ⟨w6.heap.size, 14, none⟩ (.string DD)) := (HB07.out.trans (HB8.out.mono (by omega))).setCell (by show w0.heap.size ≤ w6.heap.size; omega) _
          have hs9 : (w8.setCell ⟨w6.heap.size, 14, none⟩ (.string DD)).heap.size = w8.heap.size := by simp only [World.setCell]; rw [Array.size_modify]
          clear hc14 hf14 hrg8 f3
          generalize w8.setCell ⟨w6.heap.size, 14, none⟩ (.string DD) = w9 at hrgA hb09 hs9 ⊢
          obtain ⟨L9, hL9⟩ : ∃ L9 : LeafD, L9 = { L with data := DD } := ⟨_, rfl⟩
          rw [← hL9] at hrgA
          have hLI : LeafIs nd k L9 := by
            rw [hL9]
            refine ⟨HLPP.out, HLNN.out, HLDR.out, fun _ => ⟨HDD.out.symm, ?_⟩⟩
            show L.size = _
            have h1 := tr.size k HK2.out.2.1
            unfold sizeOfN at h1
            rw [if_neg (by rw [hd]; simp)] at h1
            rw [HLZ.out, ← HZ.out, h1]
          have hd9 : L9.dir = false := by rw [hL9]; show L.dir = false; rw [HLDR.out, hd]
          have hrgA9 : w9.rangeAt w6.heap.size 0 [.string L9.path, .string L9.name, .bool L9.dir, .bool false, .bool false, .int .u32 L9.perm, .int .i64 L9.size, .int .i64 L9.time, .int .u32 0, .int .u32 0, .int .u32 0, .int .u32 0, .string ⟨#[]⟩, .string ⟨#[]⟩, .string L9.data] := hrgA
          have HRGA := Lib.hid hrgA9
          have HB09 := Lib.hid hb09
          have HLI := Lib.hid hLI
          have HD9 := Lib.hid hd9
          have hs9l : w6.heap.size < w9.heap.size := by omega
          have HOW9 := Lib.hid (HOWN.out.below hb09)
          clear hrgA hrgA9 hb09 hs9 hL9 hLI hd9 hLdir
          go_upto_region 17 with (first
            | (refine wpList_load_mid rfl 52 (.tmp 15) rfl w6.heap.size 0 rfl _ _ HRGA.out Tryz.underlying52 rfl (hll L) ?_)
            | (refine wpList_append_ownS' rfl (.tmp 80) (.tmp 82) 29 rfl B 52 i52 z52 15 120 Tryz.underlying29 hi52 hz52 hs52 hb52 hc52 (by decide) (.slice ad mq cap) mq _ rfl (HOW9.out.alloc _) ⟨w9.heap.size, 0, none⟩ 1 1 (lcells L9) rfl rfl (row_at w9 _ 52) (lcells_one L9) (by omega) (by unfold maxLen; omega) (by omega) (by have := HRR.out.fs.hi; simp; omega) ?_
               intro v10 w10 hA
               have HA := Lib.hid hA
               clear hA))
          obtain ⟨ad10, cap10, rfl⟩ := HA.out.own.slice
          have hgr10 : Grow w0 (.slice ad mq cap) (.slice ad10 (mq + 1) cap10) w10 := (Grow.new _ (HB09.out.alloc (by omega) _)).trans (Grow.app HA.out)
          have hblk10 : w10.heap[w6.heap.size]? = w9.heap[w6.heap.size]? := (HA.out.other w6.heap.size (by simp; omega) (fun e => by have := HBL0.out _ e; omega)).trans (Below.heap_alloc w9 _ _ (by omega))
          have hown10 := HA.out.own
          have e10 : lsC (cs ++ ls) ++ lcells L9 = lsC (cs ++ (ls ++ [L9])) := by rw [← List.append_assoc, lsC_append (cs ++ ls), lsC_one]
          rw [e10] at hown10
          have hs10 := HA.out.grew
          rw [World.size_alloc] at hs10
          have HGR10 := Lib.hid hgr10
          have HOWN10 := Lib.hid hown10
          clear hgr10 hown10 e10 HA
          have c2 : w10.cell? ⟨w6.heap.size, 2, none⟩ = some (.bool false) := by
            rw [World.cell?_of_block (w := w9) (a := ⟨w6.heap.size, 2, none⟩) hblk10]
            have h := HRGA.out 2 _ rfl
            rw [Nat.zero_add, HD9.out] at h
            exact h
          clear hblk10
          go_wp2
          go_roundw
          case rel =>
            refine ⟨q + 1, mq + 1, cap10, ad10, ls ++ [L9], by go_num, by omega, rfl, ?_, HOWN10.out, ?_, HGR.out.trans HGR10.out⟩
            · have := HMQ.out
              simp; omega
            · rw [pre1_succ HKK.out, if_neg (by rw [hd]; simp)]
              exact HLV.out.append (Leaves.one HLI.out)
          case measure => simp [intOf]; omega
    · have hqq : q = ps.length := by omega
      go_wp2
      go_ret2
      refine ⟨_, ls, rfl, ?_, ?_, (Grow.new _ (HB1.out.trans (HB3.out.mono (by omega)))).trans HGR.out⟩
      · have h := HLV.out
        rw [pre1_all (by rw [hqq, HLEN.out]; exact Nat.le_refl _)] at h
        exact h
      · have h := HOWN.out
        rw [HMQ.out] at h ⊢
        exact h
theorem walk_any {B fp mb pt rd n P : Nat} {D vol : Bs} {nd : Nat → Nd} {ks : Nat → List Nat} {ds : List Nat} (tr : Tr D nd ks n ds P vol) (xv : Nat) (rr : RecE) (ea : Addr) (hrx : rr.ext = (nd 0).ext) (hrs : rr.size = 2048) :
    ∀ f x0, x0 < n → (nd x0).f.dir = true → 7 ≤ (pth nd x0).length + f → WalkOK nd ks B fp mb pt rd xv ea D (esOf nd ds) rr f x0
  | 0, x0, hx, hdx, h7 => by
    have hn : ks x0 = [] := deep_none tr.tree tr.good hx (by omega)
    have h := walk_step (B := B) (fp := fp) (mb := mb) (pt := pt) (rd := rd) tr xv rr ea hrx hrs 0 x0 hx hdx (fun k hk => by rw [hn] at hk; cases hk)
    have e : pre nd ks 1 x0 = pre nd ks 0 x0 := by
      have : pre nd ks 1 x0 = (ks x0).flatMap fun k => k :: (if (nd k).f.dir then pre nd ks 0 k else []) := rfl
      rw [this, hn]; rfl
    unfold WalkOK at h ⊢
    rw [e] at h
    exact h
  | f + 1, x0, hx, hdx, h7 => walk_step tr xv rr ea hrx hrs f x0 hx hdx (fun k hk hd => by
    have hk2 := (tr.tree.mem x0 hx k).1 hk
    exact walk_any tr xv rr ea hrx hrs f k hk2.2.1 hd (by rw [kid_pth tr.tree tr.good hx hk, List.length_append]; simp; omega))

end Go.Proofs.YtfppgplboomdbaaGreatDoor
