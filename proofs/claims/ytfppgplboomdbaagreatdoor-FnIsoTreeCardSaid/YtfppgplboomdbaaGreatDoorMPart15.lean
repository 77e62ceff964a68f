/- Part of the proofs of laws.FnIsoTree and laws.FnIsoAt: lemmas and contracts of functions that the two laws reach, each under the hypotheses that its own statement names. -/
import Derived.Test.YtfppgplboomdbaaGreatDoorMPart14
import Derived.Handy
import Derived.LaidEql
namespace Go.Proofs.YtfppgplboomdbaaGreatDoor
open Go.RowKit

theorem trimS_len (s p : Bs) : (Lib.trimSuffix s p).length ≤ s.length := by
  unfold Lib.trimSuffix
  split
  · rw [List.length_take]; omega
  · exact Nat.le_refl _
theorem mk_size (l : Bs) : (⟨l.toArray⟩ : ByteArray).size = l.length := by simp [ByteArray.size]
set_option maxHeartbeats 1000000 in
theorem isDir_any (p : Nat) (b : Bool) (w : World) (h : w.cell? ⟨p, 7, none⟩ = some (.bool b)) : Calls Tryz.prog 76 #[.pointer (some ⟨p, 0, none⟩)] w fun e w' => e = .returned (.bool b) ∧ w' = w := by
  go_enter Tryz.func76, Tryz.ntmps76
  go_wp2
  go_ret
  exact ⟨rfl, rfl⟩
set_option maxHeartbeats 2000000 in
set_option maxRecDepth 100000 in
theorem name_any (p fp : Nat) (r : RecE) (w : World) (hE : EntAt w p r (.pointer (some ⟨fp, 0, none⟩))) (hse : w.cell? ⟨fp, 11, none⟩ = some (.bool false)) (hs : (nameB r).size ≤ 1000000) :
    Calls Tryz.prog 75 #[.pointer (some ⟨p, 0, none⟩)] w fun e w' => e = .returned (.string ⟨(nameOfR r).toArray⟩) ∧ w' = w := by
  obtain ⟨_, _, y7, _, _, y16, y17, _⟩ := hE.full
  have hbs : (⟨(nameB r).data.toList.toArray⟩ : ByteArray) = nameB r := rfl
  obtain ⟨N, hN⟩ : ∃ N, nameB r = N := ⟨_, rfl⟩
  have hnm : nameOfR r = if r.dir then N.data.toList else strip1 N.data.toList := by unfold nameOfR; rw [hN]
  rw [hN] at y17 hs
  have h1 : (⟨(Lib.trimSuffix N.data.toList [59, 49]).toArray⟩ : ByteArray).size ≤ 1000000 := by
    rw [mk_size]
    have := trimS_len N.data.toList [59, 49]
    have : N.data.toList.length = N.size := rfl
    omega
  have HN := Lib.hid hnm
  have H1 := Lib.hid h1
  have hm7 := y7
  clear hE hbs hN hnm h1
  cases hd : r.dir with
  | true =>
    rw [hd] at y7
    go_enter Tryz.func75, Tryz.ntmps75
    go_wp2_with (first
      | (go_at_call 76; refine (isDir_any p true w y7).mono ?_; rintro e w2 ⟨rfl, rfl⟩))
    go_ret
    refine ⟨?_, rfl⟩
    rw [HN.out, hd, if_pos rfl]; rfl
  | false =>
    rw [hd] at y7
    go_enter Tryz.func75, Tryz.ntmps75
    go_wp2_with (first
      | (go_at_call 76; refine (isDir_any p false w y7).mono ?_; rintro e w2 ⟨rfl, rfl⟩)
      | (go_at_call 100; refine (Tryz.strings_TrimSuffix N ⟨#[59, 49]⟩ _ (by omega)).mono ?_; rintro e w2 ⟨rfl, rfl⟩)
      | (go_at_call 100; refine (Tryz.strings_TrimSuffix ⟨(Lib.trimSuffix N.data.toList [59, 49]).toArray⟩ ⟨#[46]⟩ _ (by have := H1.out; omega)).mono ?_; rintro e w2 ⟨rfl, rfl⟩)
      | (go_at_call 101; refine (Tryz.strings_TrimPrefix ⟨(Lib.trimSuffix (Lib.trimSuffix N.data.toList [59, 49]) [46]).toArray⟩ ⟨#[46]⟩ _).mono ?_; rintro e w2 ⟨rfl, rfl⟩))
    go_ret
    refine ⟨?_, rfl⟩
    rw [HN.out, hd, if_neg (by simp)]; rfl

end Go.Proofs.YtfppgplboomdbaaGreatDoor

namespace Go.Proofs.YtfppgplboomdbaaGreatDoor
open Go.RowKit

set_option maxHeartbeats 1000000 in
theorem info_any (p : Nat) (w : World) : Calls Tryz.prog 174 #[.pointer (some ⟨p, 0, none⟩)] w fun e w' => e = .returned (.tuple #[ifV p, .nilIface]) ∧ w' = w := by
  go_enter Tryz.func174, Tryz.ntmps174
  go_wp2
  go_ret2
  exact ⟨rfl, rfl⟩
/-- What Stat and Open ask of a path: its directory and its last part. -/
theorem pathDir {nd : Nat → Nd} {n y : Nat} (g : GoodN nd n) (h1 : 1 ≤ y) (hy : y < n) {s : ByteArray} (hs : s.data.toList = joinP (pth nd y)) :
    PathOf nd (nd y).parent ⟨(Lib.Pa.cleanEls (Lib.Pa.split s.data.toList).1).toArray⟩ ∧ Lib.Pa.base s.data.toList = nmN nd y := by
  have hp := g.parts y h1 hy
  have hpar := g.par y h1 hy
  have hpl : ∀ x ∈ pth nd (nd y).parent, PlainE x := fun x hx => by obtain ⟨d, h⟩ := g.plain _ (by omega) x hx; exact h.plain
  obtain ⟨e1, e2⟩ := dir_joinP (pth nd (nd y).parent) hpl (g.name y h1 hy).plain
  rw [hs, hp]
  refine ⟨?_, e2⟩
  rw [e1]
  rcases Nat.eq_zero_or_pos (nd y).parent with h0 | h0
  · left
    rw [h0]
    exact ⟨rfl, rfl⟩
  · right
    have hne : pth nd (nd y).parent ≠ [] := by rw [g.parts _ h0 (by omega)]; simp
    rw [if_neg hne]
    exact ⟨h0, rfl⟩
def StatPost (fp : Nat) (nd : Nat → Nd) (y : Nat) (w : World) (e : Ending) (w' : World) : Prop := ∃ p r, e = .returned (.tuple #[ifV p, .nilIface]) ∧ EntAt w' p r (.pointer (some ⟨fp, 0, none⟩)) ∧ RecIs nd (nid nd y) y (nd y).f.dir r ∧ nameOfR r = nmN nd y ∧ Below w.heap.size w w'
theorem rec_small {nd : Nat → Nd} {n k : Nat} {r : RecE} (g : GoodN nd n) (h1 : 1 ≤ k) (hk : k < n) (h : RecIs nd (nid nd k) k (nd k).f.dir r) : (nameB r).size ≤ 1000000 := by
  have hn := (g.name k h1 hk).le
  have hid := g.id k h1 hk
  have hl : r.id.length ≤ 14 := by
    rw [h.id, hid]
    split
    · omega
    · simp; omega
  unfold nameB
  split
  · show (0 : Nat) ≤ _; omega
  · rw [mk_size]; omega
set_option maxHeartbeats 4000000 in
set_option maxRecDepth 100000 in
theorem stat_any {B fp mb pt rd n P : Nat} {D vol : Bs} {nd : Nat → Nd} {ks : Nat → List Nat} {ds : List Nat} (tr : Tr D nd ks n ds P vol) (y : Nat) (s : ByteArray) (rr : RecE) (w : World) (hF : FsAt w B fp mb pt rd D (esOf nd ds)) (hE : EntAt w rd rr (.pointer (some ⟨fp, 0, none⟩))) (hrx : rr.ext = (nd 0).ext) (hrs : rr.size = 2048) (hrd : rd < B) (hy1 : 1 ≤ y) (hy : y < n) (hp : s.data.toList = joinP (pth nd y)) :
    Calls Tryz.prog 52 #[.pointer (some ⟨fp, 0, none⟩), .string s] w fun e w' => StatPost fp nd y w e w' := by
  have hS := pth_str tr.good hy1 hy hp
  have hss := hS.small
  have hpar := tr.good.par y hy1 hy
  obtain ⟨hpd, hbase⟩ := pathDir tr.good hy1 hy hp
  have hyk : y ∈ ks (nd y).parent := (tr.tree.mem _ (by omega) y).2 ⟨hy1, hy, rfl⟩
  have hs46 : (s.toList == [46]) = false := by
    simp only [ByteArray.toList_eq]
    have hne : s.data.toList ≠ [46] := fun h => by
      have h2 := hS.els
      rw [h] at h2
      have h3 := hS.plain [46] (by rw [← h2]; simp [Lib.Pa.els])
      exact h3.dot rfl
    simpa using hne
  have HB := Lib.hid hbase
  have HPD := Lib.hid hpd
  have HF := Lib.hid hF
  have HE := Lib.hid hE
  have hFhi := hF.hi
  clear hF hE hpd hbase hS hp
  go_enter Tryz.func52, Tryz.ntmps52
  go_upto_region 5 with (first
    | (go_at_call 72
       refine (Tryz.path_Dir_rules s w (by omega)).mono ?_
       rintro e w2 ⟨rfl, hb2⟩
       have HB2 := Lib.hid hb2
       have hs2 := hb2.size
       clear hb2)
    | (go_at_call 73
       refine (Tryz.path_Base s _ (by omega)).mono ?_
       rintro e w3 ⟨rfl, rfl⟩))
  rw [HB.out]
  obtain ⟨BB, hBB⟩ : ∃ BB : ByteArray, (⟨(nmN nd y).toArray⟩ : ByteArray) = BB := ⟨_, rfl⟩
  rw [hBB]
  have HBB := Lib.hid hBB
  clear hBB
  go_upto_region 8 with (first
    | (go_at_call 51
       refine (readDir_any tr (nd y).parent _ rr _ (HF.out.below HB2.out) (HE.out.below HB2.out) hrx hrs hrd (by omega) hpar.2 HPD.out).mono ?_
       rintro e w4 ⟨v, ps, rfl, hov, hk, hb4⟩
       have HOV := Lib.hid hov
       have HK := Lib.hid hk
       have HB4 := Lib.hid hb4
       have hs4 := hb4.size
       clear hov hk hb4))
  have hlen := HK.out.len
  obtain ⟨j0, hj0⟩ := List.getElem?_of_mem hyk
  have hj0l : j0 < ps.length := by rw [hlen]; exact (List.getElem?_eq_some_iff.1 hj0).1
  obtain ⟨g2, cap2, rfl, hg2l, hg2⟩ : ∃ g2 cap2, v = .slice (some ⟨g2, 0, none⟩) ps.length cap2 ∧ g2 < w4.heap.size ∧ ∀ (j : Nat) (q : Nat), ps[j]? = some q → w4.cell? ⟨g2, j, none⟩ = some (.iface 111 (.pointer (some ⟨q, 0, none⟩))) := by
    obtain ⟨_, ⟨_, h0'⟩ | ⟨g2, cap2, e, _, h3, hnc, _, h4, _⟩⟩ := HOV.out
    · omega
    · exact ⟨g2, cap2, e, h3, fun j q hq => h4 j (ifV q) (by rw [List.getElem?_map, hq]; rfl)⟩
  have hpl1 : ps.length ≤ 1000 := by
    have hf := tr.few
    have := length_le_of_nodup n (ks (nd y).parent) (tr.tree.nodup _ (by omega)) (fun x hx => ((tr.tree.mem _ (by omega) x).1 hx).2.1)
    omega
  have HG2 := Lib.hid hg2
  have HJ0 := Lib.hid hj0
  have HL := Lib.hid hlen
  have hF4 := (HF.out.below HB2.out).below HB4.out
  have fse := hF4.se
  clear hg2 hj0 hlen hF4 hs46
  go_wp2
  go_loopw [36] (fun iv wr => ∃ q : Nat, iv = .int .i64 q ∧ q ≤ ps.length ∧ wr = w4 ∧ ∀ j, j < q → (ks (nd y).parent)[j]? ≠ some y) (fun iv _ => ps.length - (intOf iv).toNat)
  case atStart => exact ⟨0, rfl, Nat.zero_le _, rfl, fun j h => by omega⟩
  case round =>
    obtain ⟨q, rfl, hq, rfl, hno⟩ := hrel
    have HNO := Lib.hid hno
    clear hno
    by_cases hql : q < ps.length
    · have hpq : ps[q]? = some (ps[q]'hql) := List.getElem?_eq_getElem _
      generalize ps[q]'hql = pq at hpq
      have hkq : (ks (nd y).parent)[q]? = some ((ks (nd y).parent)[q]'(by have := HL.out; omega)) := List.getElem?_eq_getElem _
      generalize (ks (nd y).parent)[q]'(by have := HL.out; omega) = kq at hkq
      obtain ⟨r, hEq, hnm, hri⟩ := HK.out.ent q kq pq hkq hpq
      have hkq2 := (tr.tree.mem _ (by omega) kq).1 (List.mem_of_getElem? hkq)
      have c2 := HG2.out q pq hpq
      have hsm := rec_small tr.good hkq2.1 hkq2.2.1 hri
      have hN := Lib.hid (name_any pq fp r wr hEq fse hsm)
      have hI := Lib.hid (info_any pq wr)
      obtain ⟨NN, hNN⟩ : ∃ NN : ByteArray, (⟨(nameOfR r).toArray⟩ : ByteArray) = NN := ⟨_, rfl⟩
      rw [hNN] at hN
      have hcmp := str_eq hNN HBB.out (b := decide (nameOfR r = nmN nd y)) rfl
      have HEQ := Lib.hid hEq
      have HRI := Lib.hid hri
      have HKQ := Lib.hid hkq
      have HNM := Lib.hid hnm
      clear hpq hEq hri hkq hnm hNN
      by_cases hmt : nameOfR r = nmN nd y
      · have hky : kq = y := kid_inj tr.tree tr.good (by omega : (nd y).parent < n) (List.mem_of_getElem? HKQ.out) hyk (by rw [← HNM.out]; exact hmt)
        rw [decide_eq_true hmt] at hcmp
        have HMT := Lib.hid hmt
        clear hmt
        go_wp2_with (first
          | (go_at_call 75; refine hN.out.mono ?_; rintro e w5 ⟨rfl, rfl⟩)
          | (go_at_call 174; refine (info_any pq _).mono ?_; rintro e w5 ⟨rfl, rfl⟩))
        go_ret2
        subst hky
        exact ⟨pq, r, rfl, HEQ.out, HRI.out, HMT.out, HB2.out.trans (HB4.out.mono hs2)⟩
      · rw [decide_eq_false hmt] at hcmp
        have HMT := Lib.hid hmt
        clear hmt
        go_wp2_with (first
          | (go_at_call 75; refine hN.out.mono ?_; rintro e w5 ⟨rfl, rfl⟩))
        refine ⟨⟨q + 1, by go_num, by omega, trivial, fun j hj hjy => ?_⟩, ?_⟩
        · by_cases e : j = q
          · subst e
            rw [HKQ.out] at hjy
            cases hjy
            exact HMT.out HNM.out
          · exact HNO.out j (by omega) hjy
        · simp [intOf]; omega
    · exact absurd HJ0.out (HNO.out j0 (by omega))

end Go.Proofs.YtfppgplboomdbaaGreatDoor

namespace Go.Proofs.YtfppgplboomdbaaGreatDoor
open Go.RowKit

def OpenPost (fp : Nat) (nd : Nat → Nd) (y : Nat) (w : World) (e : Ending) (w' : World) : Prop := ∃ fb p r, e = .returned (.tuple #[.iface 108 (.pointer (some ⟨fb, 0, none⟩)), .nilIface]) ∧ w.heap.size ≤ fb ∧ w'.heap[fb]? = some (.cells #[.pointer (some ⟨p, 0, none⟩), .bool false, .bool false, .int .i64 0, .bool false] 113 (0, 0)) ∧ EntAt w' p r (.pointer (some ⟨fp, 0, none⟩)) ∧ p < fb ∧ RecIs nd (nid nd y) y (nd y).f.dir r ∧ Below w.heap.size w w'
set_option maxHeartbeats 4000000 in
set_option maxRecDepth 100000 in
theorem open_any {B fp mb pt rd n P : Nat} {D vol : Bs} {nd : Nat → Nd} {ks : Nat → List Nat} {ds : List Nat} (tr : Tr D nd ks n ds P vol) (y : Nat) (s : ByteArray) (rr : RecE) (w : World) (hF : FsAt w B fp mb pt rd D (esOf nd ds)) (hE : EntAt w rd rr (.pointer (some ⟨fp, 0, none⟩))) (hrx : rr.ext = (nd 0).ext) (hrs : rr.size = 2048) (hrd : rd < B) (hy1 : 1 ≤ y) (hy : y < n) (hp : s.data.toList = joinP (pth nd y)) (hfile : (nd y).f.dir = false) :
    Calls Tryz.prog 54 #[.pointer (some ⟨fp, 0, none⟩), .string s] w fun e w' => OpenPost fp nd y w e w' := by
  have hS := pth_str tr.good hy1 hy hp
  have hss := hS.small
  have hpar := tr.good.par y hy1 hy
  obtain ⟨hpd, hbase⟩ := pathDir tr.good hy1 hy hp
  have hyk : y ∈ ks (nd y).parent := (tr.tree.mem _ (by omega) y).2 ⟨hy1, hy, rfl⟩
  have hs46 : (s.toList == [46]) = false := by
    simp only [ByteArray.toList_eq]
    have hne : s.data.toList ≠ [46] := fun h => by
      have h2 := hS.els
      rw [h] at h2
      have h3 := hS.plain [46] (by rw [← h2]; simp [Lib.Pa.els])
      exact h3.dot rfl
    simpa using hne
  have hpo : PathOf nd y s := .inr ⟨hy1, hp⟩
  obtain ⟨f1, f2, f3⟩ := hpo.facts tr.good hy
  have HV := Lib.hid (validatePath_any s w f1 f2 hF.tabs f3)
  have HB := Lib.hid hbase
  have HPD := Lib.hid hpd
  have HF := Lib.hid hF
  have HE := Lib.hid hE
  have hFhi := hF.hi
  clear hF hE hpd hbase hS hp hpo f1 f2 f3
  go_enter Tryz.func54, Tryz.ntmps54
  go_upto_region 4 with (first
    | (go_at_call 68
       refine HV.out.mono ?_
       rintro e w1 ⟨rfl, hb1⟩
       have HB1 := Lib.hid hb1
       have hs1 := hb1.size
       have hF1 := Lib.hid (HF.out.below hb1)
       have hws := hF1.out.ws
       clear hb1))
  go_upto_region 10 with (first
    | (go_at_call 72
       refine (Tryz.path_Dir_rules s w1 (by omega)).mono ?_
       rintro e w2 ⟨rfl, hb2⟩
       have HB2 := Lib.hid hb2
       have hs2 := hb2.size
       clear hb2)
    | (go_at_call 73
       refine (Tryz.path_Base s _ (by omega)).mono ?_
       rintro e w3 ⟨rfl, rfl⟩))
  rw [HB.out]
  obtain ⟨BB, hBB⟩ : ∃ BB : ByteArray, (⟨(nmN nd y).toArray⟩ : ByteArray) = BB := ⟨_, rfl⟩
  rw [hBB]
  have HBB := Lib.hid hBB
  clear hBB hws
  go_upto_region 13 with (first
    | (go_at_call 71
       refine (readDir0_any tr (nd y).parent _ rr _ (hF1.out.below HB2.out) ((HE.out.below HB1.out).below HB2.out) hrx hrs hrd (by omega) hpar.2 HPD.out).mono ?_
       rintro e w4 ⟨g, cap, ps, rsA, rfl, h1, h2, h3, h4, h5, h6⟩
       have H2 := Lib.hid h2
       have H3 := Lib.hid h3
       have H4 := Lib.hid h4
       have H6 := Lib.hid h6
       have hs4 := h6.size
       clear h2 h3 h4 h6))
  have hlen := H3.out.len
  obtain ⟨r0, r1, rs, hrsA, hr0, hr1, _, hrsl, hkids⟩ := H4.out.kids tr.tree tr.good (by omega : (nd y).parent < n)
  have hl2 : rsA.length = rs.length + 2 := by rw [hrsA]; rfl
  have HL2 := Lib.hid hl2
  have HRS := Lib.hid hrsl
  obtain ⟨j0, hj0⟩ := List.getElem?_of_mem hyk
  have hj0l : j0 + 2 < rsA.length := by rw [hl2, hrsl]; have := (List.getElem?_eq_some_iff.1 hj0).1; omega
  have HJ0 := Lib.hid hj0
  have HA := Lib.hid hrsA
  have HK := Lib.hid hkids
  have HL := Lib.hid hlen
  have hF4 := (hF1.out.below HB2.out).below H6.out
  have fse := hF4.se
  clear hs46 hlen hrsA hkids hl2 hrsl hj0 hF4
  go_wp2
  go_loopw [67] (fun iv wr => ∃ q : Nat, iv = .int .i64 q ∧ q ≤ rsA.length ∧ wr = w4 ∧ ∀ j, j + 2 < q → (ks (nd y).parent)[j]? ≠ some y) (fun iv _ => rsA.length - (intOf iv).toNat)
  case atStart => exact ⟨0, rfl, Nat.zero_le _, rfl, fun j h => by omega⟩
  case round =>
    obtain ⟨q, rfl, hq, rfl, hno⟩ := hrel
    have HNO := Lib.hid hno
    clear hno
    by_cases hql : q < rsA.length
    · obtain ⟨rq, hrq⟩ : ∃ rq, rsA[q]? = some rq := ⟨rsA[q], List.getElem?_eq_getElem hql⟩
      have hpq : ps[q]? = some (ps[q]'(by have := HL.out; omega)) := List.getElem?_eq_getElem _
      generalize ps[q]'(by have := HL.out; omega) = pq at hpq
      have hE0 := (H3.out.ent q pq rq hpq hrq).2
      obtain ⟨_, _, y7, y12, y13, _, _, hpql⟩ := hE0.full
      have hgc := H2.out q pq hpq
      have HPQ := Lib.hid hpq
      by_cases hq2 : q < 2
      · have hskip : selfB rq = true ∨ parB rq = true := by
          rw [HA.out] at hrq
          rcases (by omega : q = 0 ∨ q = 1) with rfl | rfl
          · simp at hrq; subst hrq; exact .inl hr0
          · simp at hrq; subst hrq; exact .inr hr1
        clear hpq hrq hE0 y7
        cases hs : selfB rq with
        | true =>
          rw [hs] at y12
          go_wp2
          exact ⟨⟨q + 1, by go_num, by omega, trivial, fun j hj => by omega⟩, by simp [intOf]; omega⟩
        | false =>
          rw [hs] at y12
          have hpp := hskip.resolve_left (by rw [hs]; simp)
          rw [hpp] at y13
          go_wp2
          exact ⟨⟨q + 1, by go_num, by omega, trivial, fun j hj => by omega⟩, by simp [intOf]; omega⟩
      · have hrq2 : rs[q - 2]? = some rq := by
          rw [HA.out] at hrq
          obtain ⟨d, rfl⟩ : ∃ d, q = d + 2 := ⟨q - 2, by omega⟩
          rw [List.getElem?_cons_succ, List.getElem?_cons_succ] at hrq
          exact hrq
        have hkq : (ks (nd y).parent)[q - 2]? = some ((ks (nd y).parent)[q - 2]'(by have := HL2.out; have := HRS.out; omega)) := List.getElem?_eq_getElem _
        generalize (ks (nd y).parent)[q - 2]'(by have := HL2.out; have := HRS.out; omega) = kq at hkq
        obtain ⟨hs, hpp, hnm, hri⟩ := HK.out (q - 2) kq rq hkq hrq2
        have hkq2 := (tr.tree.mem _ (by omega) kq).1 (List.mem_of_getElem? hkq)
        rw [hs] at y12
        rw [hpp] at y13
        have hsm := rec_small tr.good hkq2.1 hkq2.2.1 hri
        have hN := Lib.hid (name_any pq fp rq wr hE0 fse hsm)
        have hD := Lib.hid (isDir_any pq rq.dir wr y7)
        obtain ⟨NN, hNN⟩ : ∃ NN : ByteArray, (⟨(nameOfR rq).toArray⟩ : ByteArray) = NN := ⟨_, rfl⟩
        rw [hNN] at hN
        have hcmp := str_eq hNN HBB.out (b := decide (nameOfR rq = nmN nd y)) rfl
        have HEQ := Lib.hid hE0
        have HRI := Lib.hid hri
        have HKQ := Lib.hid hkq
        have HNM := Lib.hid hnm
        clear hpq hrq hE0 hri hkq hnm hNN hrq2 hs hpp
        by_cases hmt : nameOfR rq = nmN nd y
        · have hky : kq = y := kid_inj tr.tree tr.good (by omega : (nd y).parent < n) (List.mem_of_getElem? HKQ.out) hyk (by rw [← HNM.out]; exact hmt)
          subst hky
          rw [decide_eq_true hmt] at hcmp
          have hrd0 : rq.dir = false := by rw [HRI.out.dir]; exact hfile
          rw [hrd0] at hD y7
          clear hmt hrd0
          go_wp2_with (first
            | (go_at_call 75; refine hN.out.mono ?_; rintro e w5 ⟨rfl, rfl⟩)
            | (go_at_call 76; refine hD.out.mono ?_; rintro e w5 ⟨rfl, rfl⟩))
          go_ret2
          have hbb : Below w.heap.size w w5 := (HB1.out.trans (HB2.out.mono (by omega))).trans (H6.out.mono (by omega))
          exact ⟨w5.heap.size, pq, rq, rfl, by omega, heap_alloc_new w5 _, HEQ.out.below ((Below.refl _ _).alloc (Nat.le_refl _) _), hpql, HRI.out, hbb.alloc (by omega) _⟩
        · rw [decide_eq_false hmt] at hcmp
          have HMT := Lib.hid hmt
          clear hmt
          go_wp2_with (first
            | (go_at_call 75; refine hN.out.mono ?_; rintro e w5 ⟨rfl, rfl⟩))
          refine ⟨⟨q + 1, by go_num, by omega, trivial, fun j hj hjy => ?_⟩, ?_⟩
          · by_cases e : j + 2 = q
            · have e2 : q - 2 = j := by omega
              have h := HKQ.out
              rw [e2, hjy] at h
              cases h
              exact HMT.out HNM.out
            · exact HNO.out j (by omega) hjy
          · simp [intOf]; omega
    · exact absurd HJ0.out (HNO.out j0 (by omega))

end Go.Proofs.YtfppgplboomdbaaGreatDoor

namespace Go.Proofs.YtfppgplboomdbaaGreatDoor
open Go.RowKit

def FileRow (w : World) (fb p : Nat) (o : Int) (c : Bool) : Prop := w.heap[fb]? = some (.cells #[.pointer (some ⟨p, 0, none⟩), .bool false, .bool false, .int .i64 o, .bool c] 113 (0, 0))
theorem FileRow.cells {w : World} {fb p : Nat} {o : Int} {c : Bool} (h : FileRow w fb p o c) : w.cell? ⟨fb, 0, none⟩ = some (.pointer (some ⟨p, 0, none⟩)) ∧ w.cell? ⟨fb, 3, none⟩ = some (.int .i64 o) ∧ w.cell? ⟨fb, 4, none⟩ = some (.bool c) ∧ w.frozen? ⟨fb, 3, none⟩ = false ∧ w.frozen? ⟨fb, 4, none⟩ = false ∧ fb < w.heap.size := by
  have hl := lt_of_block h
  refine ⟨by rw [cell_of_row _ _ _ _ _ _ h]; rfl, by rw [cell_of_row _ _ _ _ _ _ h]; rfl, by rw [cell_of_row _ _ _ _ _ _ h]; rfl, ?_, ?_, hl⟩
  · have h' : w.heap[fb]? = _ := h
    simp [World.frozen?, h']
  · have h' : w.heap[fb]? = _ := h
    simp [World.frozen?, h']
theorem FileRow.set3 {w : World} {fb p : Nat} {o : Int} {c : Bool} (h : FileRow w fb p o c) (o' : Int) : FileRow (w.setCell ⟨fb, 3, none⟩ (.int .i64 o')) fb p o' c := by
  have hl := lt_of_block h
  have h' : w.heap[fb] = _ := (Array.getElem?_eq_some_iff.1 h).2
  show (w.heap.modify fb _)[fb]? = _
  rw [Array.getElem?_eq_getElem (by simpa using hl), Array.getElem_modify_self, h']
  rfl
def EofAt (w : World) (a : Addr) : Prop := w.cell? ⟨0, 0, none⟩ = some (.iface 190 (.pointer (some a)))
theorem EofAt.keep {w w' : World} {a : Addr} {B : Nat} (h : EofAt w a) (hb : Below B w w') (h0 : 0 < B) : EofAt w' a := (hb.cell (p := ⟨0, 0, none⟩) h0).trans h
set_option maxHeartbeats 2000000 in
theorem seek_any (fb p : Nat) (o0 : Int) (o : Nat) (w : World) (h : FileRow w fb p o0 false) (_ho : o ≤ 1000000000) : Calls Tryz.prog 56 #[.pointer (some ⟨fb, 0, none⟩), .int .i64 (o : Int), .int .i64 0] w fun e w' => e = .returned (.tuple #[.int .i64 (o : Int), .nilIface]) ∧ w' = w.setCell ⟨fb, 3, none⟩ (.int .i64 (o : Int)) := by
  obtain ⟨c0, c3, c4, z3, z4, hl⟩ := h.cells
  clear h
  go_enter Tryz.func56, Tryz.ntmps56
  go_wp2
  go_ret2
  exact ⟨rfl, rfl⟩
set_option maxHeartbeats 2000000 in
theorem close_any (fb p : Nat) (o0 : Int) (w : World) (h : FileRow w fb p o0 false) : Calls Tryz.prog 58 #[.pointer (some ⟨fb, 0, none⟩)] w fun e w' => e = .returned .nilIface ∧ w' = w.setCell ⟨fb, 4, none⟩ (.bool true) := by
  obtain ⟨c0, c3, c4, z3, z4, hl⟩ := h.cells
  clear h
  go_enter Tryz.func58, Tryz.ntmps58
  go_wp2
  go_ret
  exact ⟨rfl, rfl⟩
set_option maxHeartbeats 2000000 in
theorem size_any (p fp : Nat) (r : RecE) (z : Nat) (w : World) (h : EntAt w p r (.pointer (some ⟨fp, 0, none⟩))) (hz : r.size = z) (hz1 : z ≤ 1000000) : Calls Tryz.prog 55 #[.pointer (some ⟨p, 0, none⟩)] w fun e w' => e = .returned (.int .i64 (z : Int)) ∧ w' = w := by
  obtain ⟨_, c2, _⟩ := h.full
  rw [hz] at c2
  have hw : IntKind.i64.wrap (z : Int) = (z : Int) := IntWalk.i64_in _ (by omega)
  clear h
  go_enter Tryz.func55, Tryz.ntmps55
  go_wp2
  go_ret
  exact ⟨rfl, rfl⟩

end Go.Proofs.YtfppgplboomdbaaGreatDoor
