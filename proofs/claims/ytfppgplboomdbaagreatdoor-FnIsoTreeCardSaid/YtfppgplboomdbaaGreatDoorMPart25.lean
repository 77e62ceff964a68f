/- Part of the proofs of laws.FnIsoTree and laws.FnIsoAt: lemmas and contracts of functions that the two laws reach, each under the hypotheses that its own statement names. -/
import Derived.Test.YtfppgplboomdbaaGreatDoorMPart21
import Derived.Test.YtfppgplboomdbaaGreatDoorMW7
namespace Go.Proofs.YtfppgplboomdbaaGreatDoor
open Go.RowKit

theorem vid_str (NM : ByteArray) : (vidOf NM.data.toList).data.toList = NM.data.toList ++ List.replicate (32 - NM.data.toList.length) 32 := rfl
theorem mk_str (NM : ByteArray) : (⟨NM.data.toList.toArray⟩ : ByteArray) = NM := ByteArray.ext (Array.ext' rfl)
theorem Same.of {fs : List FileD} {nd : Nat → Nd} {ks : Nat → List Nat} {ls : List LeafD} {n P : Nat} {D vol : Bs} {ds : List Nat} (hg : Good fs) (hn : NodesOf fs nd) (tr : Tr D nd ks n ds P vol) (hn2 : n = fs.length + 1) (hl : Leaves nd (pre nd ks 7 0) ls) : Same fs ls := by
  subst hn2
  have h1 := pre_len tr.tree tr.good
  exact ⟨by rw [hl.len, h1], hg.few, fun k f hf => (find_leaf hn tr.tree tr.good hl hf hg).1, fun k f hf => (find_leaf hn tr.tree tr.good hl hf hg).2, hg.noT, fun k f hf => last_part hg hf⟩
theorem vol_name (q : Nat) (hq : q < 26) : ∃ c : UInt8, ((⟨#[86, 79, 76]⟩ : ByteArray) ++ volC q).data.toList = [86, 79, 76, c] ∧ c ≠ 32 := by
  refine ⟨UInt8.ofNat (65 + q), by simp [volC], ?_⟩
  intro e
  have h := congrArg UInt8.toNat e
  rw [UInt8.toNat_ofNat'] at h
  have : (32 : UInt8).toNat = 32 := rfl
  omega
def FtPost (w : World) (e : Ending) (w' : World) : Prop := e = .returned (.bool true) ∧ Below w.heap.size w w'
theorem FilesAt.later {w w' : World} {B : Nat} {p : Option Addr} {fs : List FileD} (h : FilesAt w B p fs) (hb : Below B w w') {B' : Nat} (hB : B ≤ B') : FilesAt w' B' p fs := fun h0 => by
  obtain ⟨g, o, h1, h2, h3⟩ := h h0
  exact ⟨g, o, h1, by omega, fun k f hf => rangeAt_below (h3 k f hf) hb h2⟩
set_option maxHeartbeats 8000000 in
set_option maxRecDepth 100000 in
theorem fnIsoTree_any (p : Option Addr) (c : Nat) (fs : List FileD) (v : Int) (ea : Addr) (w : World) (hfs : FilesAt w w.heap.size p fs) (hbig : ∀ (k : Nat) (f : FileD), fs[k]? = some f → FBig f) (hn : fs.length ≤ 9223372036854775807) (hv0 : 0 ≤ v) (hv1 : v ≤ 255)
    (heof : EofAt w ea) (htabs : Lib.Utf8Tabs 4 5 w) (h6 : 6 ≤ w.heap.size) :
    Calls Tryz.prog 3 #[.slice p fs.length c, .int .u8 v] w fun e w' => FtPost w e w' := by
  have HF := Lib.hid hfs
  have HE := Lib.hid heof
  have HT := Lib.hid htabs
  have H5 := Lib.hid (fits3_any p c fs w hfs hbig hn)
  have hfsl : ∀ w', Below w.heap.size w w' → FilesAt w' w'.heap.size p fs := fun w' hb => hfs.later hb hb.size
  have HFL := Lib.hid hfsl
  have HAW := Lib.hid (fun (w' : World) (hb : Below w.heap.size w w') => awake_any ea w' (heof.keep hb (by omega)) (tabs_keep htabs hb h6) (by have := hb.size; omega))
  clear hfs hbig hn heof htabs hfsl
  generalize hN : fs.length = N at H5 ⊢
  have HN := Lib.hid hN
  clear hN
  go_enter Tryz.func3, Tryz.ntmps3
  go_upto_region 3 with (first
    | (go_at_call 5
       refine H5.out.mono ?_
       rintro e w1 ⟨b, rfl, hb, hb1⟩
       have HBB := Lib.hid hb
       have HB1 := Lib.hid hb1
       clear hb hb1))
  · go_ret
    exact ⟨rfl, HB1.out⟩
  obtain ⟨hl, hsm⟩ := HBB.out (by have h := ‹(!b) = false›; simpa using h)
  have h6c := treeGood_any p c fs w1 (HFL.out w1 HB1.out) hl hsm
  rw [HN.out] at h6c
  have H6 := Lib.hid h6c
  have HSM := Lib.hid hsm
  have HL := Lib.hid hl
  clear h6c hsm hl HBB
  go_upto_region 5 with (first
    | (go_at_call 6
       refine H6.out.mono ?_
       rintro e w2 ⟨b2, rfl, hg, hb2⟩
       have HG := Lib.hid hg
       have HB2 := Lib.hid (HB1.out.trans (hb2.mono HB1.out.size))
       have h7c := apartDirs_any p c fs w2 (HFL.out w2 HB2.out) HL.out HSM.out
       rw [HN.out] at h7c
       have H7 := Lib.hid h7c
       clear hg hb2 h7c)
    | (go_at_call 7
       refine H7.out.mono ?_
       rintro e w3 ⟨b3, rfl, ha, hb3⟩
       have HA := Lib.hid ha
       have HB3 := Lib.hid (HB2.out.trans (hb3.mono HB2.out.size))
       clear ha hb3)
    | (go_at_call 8
       refine (HAW.out w3 HB3.out).mono ?_
       rintro e w4 ⟨rfl, hb4⟩
       have HB4 := Lib.hid (HB3.out.trans (hb4.mono HB3.out.size))
       clear hb4)
    | (go_at_call 8
       refine (HAW.out w2 HB2.out).mono ?_
       rintro e w4 ⟨rfl, hb4⟩
       have HB4 := Lib.hid (HB2.out.trans (hb4.mono HB2.out.size))
       clear hb4))
  · go_ret
    exact ⟨rfl, HB4.out⟩
  · have hgood : Good fs := HG.out (by assumption)
    have hap : Apart fs := (HA.out (by have h := ‹(!b3) = false›; simpa using h)).apart hgood
    have HGOOD := Lib.hid hgood
    have HAP := Lib.hid hap
    obtain ⟨q, hq⟩ : ∃ q : Nat, v % 26 = (q : Int) := ⟨(v % 26).toNat, by omega⟩
    have hq26 : q < 26 := by omega
    have hru := fun w => rune_str w q hq26
    clear hgood hap
    go_upto_region 6 with (fail)
    obtain ⟨ch, hch, hc32⟩ := vol_name q hq26
    generalize (ByteArray.mk #[86, 79, 76] ++ volC q) = NM at hch ⊢
    have hNs : NM.size = 4 := by
      have h : NM.size = NM.data.toList.length := rfl
      rw [h, hch]; rfl
    have hNl : NM.data.toList.length ≤ 32 := by rw [hch]; simp
    have hIm := IsoImage_any p c fs NM w3 (HFL.out w3 HB3.out) HGOOD.out.files (by omega)
    rw [HN.out] at hIm
    have HIM := Lib.hid hIm
    have HCH := Lib.hid hch
    have HNL := Lib.hid hNl
    clear hIm hch hNl hru hq
    go_upto_region 7 with (first
      | (go_at_call 9
         refine HIM.out.mono ?_
         rintro e w4 ⟨I, L, D, rfl, hblk, hlen, hI, himg, hb4⟩
         have HBLK := Lib.hid hblk
         have HLEN := Lib.hid hlen
         have HIMG := Lib.hid himg
         have HB4 := Lib.hid (HB3.out.trans (hb4.mono HB3.out.size))
         clear hblk hlen himg hb4 hI))
    obtain ⟨nd, ks, ds, P, hnodes, tr⟩ := HIMG.out.tr HGOOD.out HAP.out HNL.out
    have HOP := Lib.hid (isoOpen_any tr I L ea w4 HLEN.out HBLK.out HNL.out (HE.out.keep HB4.out (by omega)) (tabs_keep HT.out HB4.out h6) (by have := HB4.out.size; omega))
    have HND := Lib.hid hnodes
    clear hnodes
    go_upto_region 8 with (first
      | (go_at_call 10
         refine HOP.out.mono ?_
         rintro e w5 ⟨v5, ls, rfl, hls, hown, hb5⟩
         have HLS := Lib.hid (Same.of HGOOD.out HND.out tr rfl hls)
         have HOWN := Lib.hid hown
         have HB5 := Lib.hid (HB4.out.trans (hb5.mono HB4.out.size))
         clear hown hb5 hls))
    obtain ⟨ad, cap, rfl⟩ := HOWN.out.slice
    have hll : ls.length = N := by rw [HLS.out.len, HN.out]
    have HLL := Lib.hid hll
    have hst := sameTree_any p ad c cap w4.heap.size fs ls ls.length w5 (HFL.out w5 HB5.out) HOWN.out rfl HLS.out HSM.out
    rw [HN.out] at hst
    have HST := Lib.hid hst
    have htr := trimmed_any (vidOf NM.data.toList) NM.data.toList (32 - NM.data.toList.length) w5 (by
      have h : (vidOf NM.data.toList).size = (vidOf NM.data.toList).data.toList.length := rfl
      rw [h, vid_str, HCH.out, List.length_append, List.length_replicate]; simp) (vid_str NM) (by rw [HCH.out]; simp) (by rw [HCH.out]; simpa using hc32)
    rw [mk_str] at htr
    have HTR := Lib.hid htr
    obtain ⟨VD, hVD⟩ : ∃ VD, vidOf NM.data.toList = VD := ⟨_, rfl⟩
    rw [hVD] at HTR ⊢
    clear hll hst htr hVD
    go_wp2_with (first
      | (go_at_call 11
         refine HTR.out.mono ?_
         rintro e w6 ⟨rfl, hw⟩
         rw [hw]
         clear hw)
      | (go_at_call 12
         refine HST.out.mono ?_
         rintro e w6 ⟨rfl, hb6⟩
         have HB6 := Lib.hid (HB5.out.trans (hb6.mono HB5.out.size))
         clear hb6)
      | (go_at_call 8
         refine (HAW.out w6 HB6.out).mono ?_
         rintro e w7 ⟨rfl, hb7⟩
         have HB7 := Lib.hid (HB6.out.trans (hb7.mono HB6.out.size))
         clear hb7))
    go_ret
    exact ⟨rfl, HB7.out⟩
  · go_ret
    exact ⟨rfl, HB4.out⟩

end Go.Proofs.YtfppgplboomdbaaGreatDoor

namespace Go.Proofs.YtfppgplboomdbaaGreatDoor
open Go.RowKit

def Pk2 (fs : List FileD) (w : World) (e : Ending) (w' : World) : Prop := ∃ f b, e = .returned (.tuple #[.agg (fcells f).toArray, .bool b]) ∧ (b = true → Pick fs f) ∧ Below w.heap.size w w'
theorem pick2_any (p : Option Addr) (c : Nat) (fs : List FileD) (v : Int) (w : World) (hfs : FilesAt w w.heap.size p fs) (hn : fs.length ≤ 2147483647) (hv0 : 0 ≤ v) (hv1 : v ≤ 255) :
    Calls Tryz.prog 13 #[.slice p fs.length c, .int .u8 v] w fun e w' => Pk2 fs w e w' :=
  (pickFile_any p c fs v w hfs hn hv0 hv1).mono fun e w' ⟨h, hb⟩ => by
    rcases h with ⟨f, hf, h⟩ | h
    · exact ⟨f, true, h, fun _ => hf, hb⟩
    · exact ⟨zeroF, false, h, (fun h => by cases h), hb⟩
theorem isoAt_at {n P : Nat} {D vol : Bs} {nd : Nat → Nd} {ks : Nat → List Nat} {ds : List Nat} (tr : Tr D nd ks n ds P vol) (I L y o m : Nat) (oi mi : Int) (hoi : oi = o) (hmi : mi = m) (ea : Addr) (s : ByteArray) (w : World) (hL : D.length = L) (hb : Blk w I D) (hv32 : vol.length ≤ 32) (heof : EofAt w ea) (htabs : Lib.Utf8Tabs 4 5 w) (h6 : 6 ≤ w.heap.size)
    (hy1 : 1 ≤ y) (hy : y < n) (hp : s.data.toList = joinP (pth nd y)) (hfile : (nd y).f.dir = false) (ho : o ≤ 100000) (hm : m ≤ 16777216) :
    Calls Tryz.prog 14 #[.slice (some ⟨I, 0, none⟩) L L, .int .i64 2048, .string s, .int .i64 oi, .int .i64 mi] w fun e w' => AtPost nd y o m w e w' := by
  subst hoi hmi
  exact isoAt_any tr I L y o m ea s w hL hb hv32 heof htabs h6 hy1 hy hp hfile ho hm
theorem part_eq (s : ByteArray) (o m e : Nat) (he : e = min s.size (o + m)) : (⟨((s.data.toList.drop o).take m).toArray⟩ : ByteArray) = s.extract o e := by
  apply ByteArray.ext
  apply Array.ext'
  have h := extract_part s o e
  rw [h]
  have hl : s.data.toList.length = s.size := rfl
  simp only []
  apply List.ext_getElem?
  intro j
  rw [List.getElem?_take, List.getElem?_take, List.getElem?_drop]
  by_cases h1 : o + j < s.size
  · by_cases h2 : j < m
    · rw [if_pos h2, if_pos (by omega)]
    · rw [if_neg h2, if_neg (by omega)]
  · rw [List.getElem?_eq_none (by omega)]
    split <;> split <;> rfl
set_option maxHeartbeats 8000000 in
set_option maxRecDepth 100000 in
theorem fnIsoAt_any (p : Option Addr) (c : Nat) (fs : List FileD) (v a b : Int) (ea : Addr) (w : World) (hfs : FilesAt w w.heap.size p fs) (hbig : ∀ (k : Nat) (f : FileD), fs[k]? = some f → FBig f) (hn : fs.length ≤ 9223372036854775807) (hv0 : 0 ≤ v) (hv1 : v ≤ 255) (ha0 : 0 ≤ a) (ha1 : a ≤ 65535) (hb0 : 0 ≤ b) (hb1 : b ≤ 65535)
    (heof : EofAt w ea) (htabs : Lib.Utf8Tabs 4 5 w) (h6 : 6 ≤ w.heap.size) :
    Calls Tryz.prog 4 #[.slice p fs.length c, .int .u8 v, .int .u16 a, .int .u16 b] w fun e w' => FtPost w e w' := by
  have HE := Lib.hid heof
  have HT := Lib.hid htabs
  have H5 := Lib.hid (fits3_any p c fs w hfs hbig hn)
  have hfsl : ∀ w', Below w.heap.size w w' → FilesAt w' w'.heap.size p fs := fun w' hb => hfs.later hb hb.size
  have HFL := Lib.hid hfsl
  have HAW := Lib.hid (fun (w' : World) (hb : Below w.heap.size w w') => awake_any ea w' (heof.keep hb (by omega)) (tabs_keep htabs hb h6) (by have := hb.size; omega))
  clear hfs hbig hn heof htabs hfsl
  generalize hN : fs.length = N at H5 ⊢
  have HN := Lib.hid hN
  clear hN
  go_enter Tryz.func4, Tryz.ntmps4
  go_upto_region 3 with (first
    | (go_at_call 5
       refine H5.out.mono ?_
       rintro e w1 ⟨bf, rfl, hb, hw1⟩
       have HBB := Lib.hid hb
       have HB1 := Lib.hid hw1
       clear hb hw1))
  · go_ret
    exact ⟨rfl, HB1.out⟩
  obtain ⟨hl, hsm⟩ := HBB.out (by have h := ‹(!bf) = false›; simpa using h)
  have hpk := pick2_any p c fs v w1 (HFL.out w1 HB1.out) hl hv0 hv1
  rw [HN.out] at hpk
  have HPK := Lib.hid hpk
  have HSM := Lib.hid hsm
  have HL := Lib.hid hl
  clear hpk hsm hl HBB
  go_upto_region 4 with (first
    | (go_at_call 13
       refine HPK.out.mono ?_
       rintro e w2 ⟨f, bp, rfl, hpf, hw2⟩
       have HPF := Lib.hid hpf
       have HB2 := Lib.hid (HB1.out.trans (hw2.mono HB1.out.size))
       clear hpf hw2)
    | (refine wpList_store_fresh rfl 38 (.tmp 9) (.tmp 24) rfl _ 38 (fcells f).toArray rfl rfl rfl rfl (fcells_one f) ?_
       intro w3 hF3
       have HF3 := Lib.hid hF3
       clear hF3))
  have hs3 : w2.heap.size < w3.heap.size := by rw [HF3.out.size]; exact Nat.lt_succ_self _
  have HB3 := Lib.hid (HB2.out.trans (HF3.out.below.mono HB2.out.size))
  have h6c := treeGood_any p c fs w3 (HFL.out w3 HB3.out) HL.out HSM.out
  rw [HN.out] at h6c
  have H6 := Lib.hid h6c
  have HR3 := Lib.hid (show w3.rangeAt w2.heap.size 0 (fcells f) from HF3.out.range)
  clear h6c
  go_upto_region 6 with (first
    | (go_at_call 6
       refine H6.out.mono ?_
       rintro e w4 ⟨b2, rfl, hg, hw4⟩
       have HG := Lib.hid hg
       have HB34 := Lib.hid hw4
       have HB4 := Lib.hid (HB3.out.trans (hw4.mono HB3.out.size))
       have h7c := apartDirs_any p c fs w4 (HFL.out w4 HB4.out) HL.out HSM.out
       rw [HN.out] at h7c
       have H7 := Lib.hid h7c
       clear hg hw4 h7c)
    | (go_at_call 7
       refine H7.out.mono ?_
       rintro e w5 ⟨b3, rfl, ha, hw5⟩
       have HA := Lib.hid ha
       have HB45 := Lib.hid hw5
       have HB5 := Lib.hid (HB4.out.trans (hw5.mono HB4.out.size))
       clear ha hw5)
    | (go_at_call 8
       refine (HAW.out w5 HB5.out).mono ?_
       rintro e w6 ⟨rfl, hw6⟩
       have HB6 := Lib.hid (HB5.out.trans (hw6.mono HB5.out.size))
       clear hw6)
    | (go_at_call 8
       refine (HAW.out w4 HB4.out).mono ?_
       rintro e w6 ⟨rfl, hw6⟩
       have HB6 := Lib.hid (HB4.out.trans (hw6.mono HB4.out.size))
       clear hw6))
  · go_ret
    exact ⟨rfl, HB6.out⟩
  · have hgood : Good fs := HG.out (by assumption)
    have hap : Apart fs := (HA.out (by assumption)).apart hgood
    obtain ⟨hfd, _, j, hj⟩ := HPF.out (by have h := ‹(!bp) = false›; simpa using h)
    have hds := hgood.size j f hj
    have HGOOD := Lib.hid hgood
    have HAP := Lib.hid hap
    have HFD := Lib.hid hfd
    have HJ := Lib.hid hj
    have hIm := IsoImage_any p c fs ⟨#[86]⟩ w5 (HFL.out w5 HB5.out) hgood.files (by decide)
    rw [HN.out] at hIm
    have HIM := Lib.hid hIm
    obtain ⟨o, hq1⟩ : ∃ o : Nat, a % ((f.data.size : Int) + 1) = (o : Int) := ⟨(a % ((f.data.size : Int) + 1)).toNat, by have := Int.emod_nonneg a (by omega : ((f.data.size : Int) + 1) ≠ 0); omega⟩
    have hol : o ≤ f.data.size := by have := Int.emod_lt_of_pos a (by omega : (0 : Int) < (f.data.size : Int) + 1); omega
    obtain ⟨r, hq2⟩ : ∃ r : Nat, b % 5000 = (r : Int) := ⟨(b % 5000).toNat, by omega⟩
    have hrl : r < 5000 := by omega
    have hne1 : ¬ ((f.data.size : Int) + 1 = 0) := by omega
    clear hgood hap hfd hj hIm
    go_upto_region 7 with (first
      | (go_at_call 9
         refine HIM.out.mono ?_
         rintro e w6 ⟨I, L, D, rfl, hblk, hlen, hI, himg, hw6⟩
         have HBLK := Lib.hid hblk
         have HLEN := Lib.hid hlen
         have HIMG := Lib.hid himg
         have HB56 := Lib.hid hw6
         have HB6 := Lib.hid (HB5.out.trans (hw6.mono HB5.out.size))
         clear hblk hlen himg hw6 hI))
    obtain ⟨nd, ks, ds, P, hnodes, tr⟩ := HIMG.out.tr HGOOD.out HAP.out (by decide)
    have hb36 : Below w3.heap.size w3 w6 := HB34.out.trans ((HB45.out.mono HB34.out.size).trans (HB56.out.mono (by have := HB34.out.size; have := HB45.out.size; omega)))
    have hrow6 := rangeAt_below HR3.out hb36 (by omega)
    have c0 : w6.cell? ⟨w2.heap.size, 0, none⟩ = some (.string f.path) := by have h := hrow6 0 _ rfl; rwa [Nat.zero_add] at h
    have c2 : w6.cell? ⟨w2.heap.size, 2, none⟩ = some (.string f.data) := by have h := hrow6 2 _ rfl; rwa [Nat.zero_add] at h
    have hjl : j < fs.length := (List.getElem?_eq_some_iff.1 HJ.out).1
    obtain ⟨f', e1, e2, _⟩ := hnodes.node j hjl
    rw [HJ.out] at e1
    obtain rfl := Option.some.inj e1
    have hpth : f.path.data.toList = joinP (pth nd (j + 1)) := by
      have h := tr.good.path (j + 1) (by omega)
      rwa [e2] at h
    have HAT := Lib.hid (isoAt_at tr I L (j + 1) o (1 + r) (o : Int) (1 + (r : Int)) rfl (by omega) ea f.path w6 HLEN.out HBLK.out (by decide) (HE.out.keep HB6.out (by omega)) (tabs_keep HT.out HB6.out h6) (by have := HB6.out.size; omega) (by omega) (by omega) hpth (by rw [e2]; exact HFD.out) (by omega) (by omega))
    obtain ⟨ee, hee⟩ : ∃ ee, ee = min f.data.size (o + (1 + r)) := ⟨_, rfl⟩
    have hpe := part_eq f.data o (1 + r) ee hee
    have hdn : dataN nd (j + 1) = f.data.data.toList := by unfold dataN; rw [e2]
    rw [← hdn] at hpe
    have HPE := Lib.hid hpe
    have HROW6 := Lib.hid hrow6
    clear hb36 hrow6 hnodes hpth hpe hdn e1 hjl e2
    go_upto_region 10 with (first
      | (go_at_call 14
         refine HAT.out.mono ?_
         rintro e w7 ⟨rfl, hw7⟩
         rw [HPE.out]
         have HB67 := Lib.hid hw7
         have HB7 := Lib.hid (HB6.out.trans (hw7.mono HB6.out.size))
         clear hw7))
    have d2 : w7.cell? ⟨w2.heap.size, 2, none⟩ = some (.string f.data) := (HB67.out.cell (p := ⟨w2.heap.size, 2, none⟩) (World.block_lt_of_cell? w6 _ c2)).trans c2
    clear c0 c2 hq1 hq2
    have hmin : (min (f.data.size : Int) ((o : Int) + (1 + (r : Int)))).toNat = min f.data.size (o + (1 + r)) := by omega
    clear hee
    go_wp2_with (first
      | (go_at_call 8
         refine (HAW.out w7 HB7.out).mono ?_
         rintro e w8 ⟨rfl, hw8⟩
         have HB8 := Lib.hid (HB7.out.trans (hw8.mono HB7.out.size))
         clear hw8))
    all_goals first
      | (go_ret
         exact ⟨rfl, HB8.out⟩)
      | (rename_i hneg
         exact absurd (by rw [hmin]) hneg)
  · go_ret
    exact ⟨rfl, HB6.out⟩
  · go_ret
    exact ⟨rfl, HB6.out⟩

end Go.Proofs.YtfppgplboomdbaaGreatDoor
