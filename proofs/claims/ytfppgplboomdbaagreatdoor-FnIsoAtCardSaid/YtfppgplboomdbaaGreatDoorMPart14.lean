/- Part of the proofs of laws.FnIsoTree and laws.FnIsoAt: lemmas and contracts of functions that the two laws reach, each under the hypotheses that its own statement names. -/
import Derived.Test.YtfppgplboomdbaaGreatDoorMK2
namespace Go.Proofs.YtfppgplboomdbaaGreatDoor
open Go.RowKit

theorem validD_all (l : Bs) (h : ∀ b ∈ l, b.toNat < 128) : Lib.validD l = true := by
  rw [Lib.validD_ascii l.length l (fun b hb => h b (List.mem_of_mem_take hb)), List.drop_length]; rfl
theorem ext_toList (s : ByteArray) (a b : Nat) : (s.extract a b).data.toList = (s.data.toList.drop a).take (b - a) := Lib.extract_data s a b
set_option maxHeartbeats 4000000 in
set_option maxRecDepth 100000 in
theorem validPath_any (s : ByteArray) (w : World) (hs : s.size ≤ 1000000) (hasc : ∀ b ∈ s.data.toList, b.toNat < 128) (ht : Lib.Utf8Tabs 4 5 w) (h : s.data.toList = [46] ∨ ∃ qs, qs ≠ [] ∧ s.data.toList = joinP qs ∧ ∀ q ∈ qs, PlainE q) :
    Calls Tryz.prog 91 #[.string s] w fun e w' => e = .returned (.bool true) ∧ Below w.heap.size w w' := by
  have hV := Any.utf8_ValidString Tryz.laysValid s w (by omega) ht
  rw [validD_all _ hasc] at hV
  have HV : Hid (Calls Tryz.prog 114 #[.string s] w fun e w' => e = .returned (.bool true) ∧ Below w.heap.size w w') := Lib.hid hV
  have HASC := Lib.hid hasc
  clear hV hasc ht
  go_enter Tryz.func91, Tryz.ntmps91
  go_upto_region 3 with (first
    | (go_at_call 114
       refine HV.out.mono ?_
       rintro e w2 ⟨rfl, hb2⟩
       have HB2 := Lib.hid hb2
       clear hb2))
  have htl : s.toList = s.data.toList := by simp only [ByteArray.toList_eq]
  by_cases hd : s.data.toList = [46]
  · have hd2 : (s.toList == [46]) = true := by rw [htl, hd]; rfl
    go_wp2
    go_ret
    exact ⟨rfl, HB2.out⟩
  · have hd2 : (s.toList == [46]) = false := by rw [htl]; simpa using hd
    obtain ⟨qs, hq0, hqs, hqp⟩ := h.resolve_left hd
    have HQP := Lib.hid hqp
    have HQS := Lib.hid hqs
    clear h hqp hqs hd htl
    go_wp2
    go_loopw [0] (fun sv wr => ∃ (t : ByteArray) (rs : List Bs), sv = .string t ∧ t.size ≤ s.size ∧ rs ≠ [] ∧ t.data.toList = joinP rs ∧ (∀ q ∈ rs, PlainE q) ∧ wr = w2) (fun sv _ => match sv with | .string t => t.size | _ => 0)
    case atStart => exact ⟨s, qs, rfl, Nat.le_refl _, hq0, HQS.out, HQP.out, rfl⟩
    case round =>
      obtain ⟨t, rs, rfl, hts, hr0, htj, hrp, rfl⟩ := hrel
      obtain ⟨w0, rfl⟩ : ∃ w0 : World, w0 = wr := ⟨_, rfl⟩
      obtain ⟨q, rest, rfl⟩ : ∃ q rest, rs = q :: rest := by
        cases rs with
        | nil => exact absurd rfl hr0
        | cons q r => exact ⟨q, r, rfl⟩
      have hq := hrp q (by simp)
      obtain ⟨f, hf⟩ : ∃ f, q.length = f := ⟨_, rfl⟩
      have hf1 : 0 < f := by rw [← hf]; exact List.length_pos_iff.2 hq.ne
      have hget : ∀ i, i < f → ∃ h : i < t.size, (t[i]'h) ≠ 47 := fun i hi => by
        have e1 : t.data.toList[i]? = q[i]? := by
          rw [htj]
          cases rest with
          | nil => rw [joinP_one]
          | cons b r => rw [joinP_cons, List.getElem?_append_left (by omega)]
        rw [List.getElem?_eq_getElem (by omega : i < q.length)] at e1
        have hil : i < t.data.toList.length := (List.getElem?_eq_some_iff.1 e1).1
        refine ⟨hil, fun h47 => hq.no47 ?_⟩
        have e2 := Lib.Pa.at_eq t i hil
        rw [e2, h47] at e1
        have e3 : (47 : UInt8) = q[i]'(by omega) := Option.some.inj e1
        rw [e3]
        exact List.getElem_mem _
      have htake : t.data.toList.take f = q := by
        rw [htj]
        cases rest with
        | nil => rw [joinP_one, ← hf, List.take_length]
        | cons b r => rw [joinP_cons, ← hf, List.take_left]
      have hfs : f ≤ t.size := by
        obtain ⟨h, _⟩ := hget (f - 1) (by omega)
        omega
      have hextract : (t.extract 0 f).toList = q := by rw [Lib.extract_toList]; simpa using htake
      have n1 : (t.extract 0 f).toList.isEmpty = false := by rw [hextract]; simpa using hq.ne
      have n2 : ((t.extract 0 f).toList == [46]) = false := by rw [hextract]; simp [hq.dot]
      have n3 : ((t.extract 0 f).toList == [46, 46]) = false := by rw [hextract]; simp [hq.dots]
      have HGET := Lib.hid hget
      have HTJ := Lib.hid htj
      have HRP := Lib.hid hrp
      have HN := Lib.hid (And.intro n1 (And.intro n2 n3))
      clear hget htj hrp n1 n2 n3 hextract htake hr0
      go_wp2
      go_loopw [3] (fun iv wr => ∃ i : Nat, iv = .int .i64 i ∧ i ≤ f ∧ wr = w0) (fun iv _ => t.size - (intOf iv).toNat)
      case atStart => exact ⟨0, rfl, by omega, rfl⟩
      case round =>
        obtain ⟨i, rfl, hi, rfl⟩ := hrel
        by_cases hif : i < f
        · obtain ⟨hil, hne⟩ := HGET.out i hif
          have hb : (((t[i]'hil).toNat : Int) != 47) = true := by rw [Lib.Pa.bne47]; simpa using hne
          go_wp2
          exact ⟨⟨i + 1, by simp, by omega, trivial⟩, by simp [intOf]; omega⟩
        · obtain rfl : i = f := by omega
          obtain ⟨n1, n2, n3⟩ := HN.out
          cases rest with
          | nil =>
            have hend : i = t.size := by
              have h2 : t.size = t.data.toList.length := rfl
              rw [h2, HTJ.out, joinP_one]; exact hf.symm
            have hendz : ((i : Int) == (t.size : Int)) = true := by simp; omega
            have hte : t.extract 0 i = t := by rw [hend]; exact Lib.Pa.extract_all t
            rw [hte] at n1 n2 n3
            go_wp2
            go_ret
            exact ⟨rfl, HB2.out⟩
          | cons b r =>
            have hlt : i < t.size := by
              have h2 : t.size = t.data.toList.length := rfl
              rw [h2, HTJ.out, joinP_cons]; simp; omega
            have h47 : (((t[i]'hlt).toNat : Int) != 47) = false := by
              rw [Lib.Pa.bne47]
              have e2 := Lib.Pa.at_eq t i hlt
              rw [HTJ.out, joinP_cons, List.getElem?_append_right (by omega), hf, Nat.sub_self] at e2
              have e3 : (47 : UInt8) = t[i]'hlt := Option.some.inj e2
              rw [← e3]; rfl
            have hendz : ((i : Int) == (t.size : Int)) = false := by simp; omega
            go_wp2
            have hts2 : (t.extract (i + 1) t.size).size = t.size - (i + 1) := by simp
            have ed : (t.extract (i + 1) t.size).data.toList = joinP (b :: r) := by
              rw [Lib.extract_data, HTJ.out, joinP_cons, List.take_of_length_le]
              · rw [List.drop_append, List.drop_eq_nil_of_le (by omega), hf]
                have e4 : i + 1 - i = 1 := by omega
                rw [e4]; rfl
              · rw [List.length_drop]
                have h2 : t.size = t.data.toList.length := rfl
                rw [h2, HTJ.out, joinP_cons]
                exact Nat.le_refl _
            exact ⟨⟨t.extract (i + 1) t.size, b :: r, rfl, by omega, by simp, ed, fun q' hq' => HRP.out q' (List.mem_cons_of_mem _ hq'), trivial⟩, by show (t.extract (i + 1) t.size).size < t.size; omega⟩
set_option maxHeartbeats 1000000 in
theorem validatePath_any (s : ByteArray) (w : World) (hs : s.size ≤ 1000000) (hasc : ∀ b ∈ s.data.toList, b.toNat < 128) (ht : Lib.Utf8Tabs 4 5 w) (h : s.data.toList = [46] ∨ ∃ qs, qs ≠ [] ∧ s.data.toList = joinP qs ∧ ∀ q ∈ qs, PlainE q) :
    Calls Tryz.prog 68 #[.string s] w fun e w' => e = .returned .nilIface ∧ Below w.heap.size w w' := by
  go_enter Tryz.func68, Tryz.ntmps68
  go_wp2_with (first
    | (go_at_call 91
       refine (validPath_any s w hs hasc ht h).mono ?_
       rintro e w2 ⟨rfl, hb2⟩))
  go_ret
  exact ⟨rfl, hb2⟩
theorem PathOf.facts {nd : Nat → Nd} {n x : Nat} {s : ByteArray} (g : GoodN nd n) (hx : x < n) (h : PathOf nd x s) : s.size ≤ 1000000 ∧ (∀ b ∈ s.data.toList, b.toNat < 128) ∧ (s.data.toList = [46] ∨ ∃ qs, qs ≠ [] ∧ s.data.toList = joinP qs ∧ ∀ q ∈ qs, PlainE q) := by
  rcases h with ⟨rfl, hs⟩ | ⟨h1, hs⟩
  · have hsz : s.size = 1 := by have : s.size = s.data.toList.length := rfl; rw [this, hs]; rfl
    exact ⟨by omega, by rw [hs]; decide, .inl hs⟩
  · have hS := pth_str g h1 hx hs
    refine ⟨hS.small, fun b hb => ?_, .inr ⟨_, ?_, hs, hS.plain⟩⟩
    · rw [hs] at hb
      rcases joinP_mem hb with rfl | ⟨q, h2, h3⟩
      · decide
      · obtain ⟨d, hd⟩ := g.plain x hx q h2
        exact (hd.ascii b h3).1
    · rw [g.parts x h1 hx]; simp
set_option maxHeartbeats 1000000 in
set_option maxRecDepth 100000 in
theorem readDir0_any {B fp mb pt rd n P : Nat} {D vol : Bs} {nd : Nat → Nd} {ks : Nat → List Nat} {ds : List Nat} (tr : Tr D nd ks n ds P vol) (x0 : Nat) (s : ByteArray) (rr : RecE) (w : World) (hF : FsAt w B fp mb pt rd D (esOf nd ds)) (hE : EntAt w rd rr (.pointer (some ⟨fp, 0, none⟩))) (hrx : rr.ext = (nd 0).ext) (hrs : rr.size = 2048) (hrd : rd < B) (hx : x0 < n) (hdx : (nd x0).f.dir = true) (hp : PathOf nd x0 s) :
    Calls Tryz.prog 71 #[.pointer (some ⟨fp, 0, none⟩), .string s] w fun e w' => RdPost fp nd ks x0 w e w' := by
  have hje := hF.je
  have hL := Lib.hid (readDirPVD_any tr x0 s rr w hF hE hrx hrs hrd hx hdx hp)
  clear hF hE hp
  go_enter Tryz.func71, Tryz.ntmps71
  go_wp2_with (first
    | (go_at_call 96
       refine hL.out.mono ?_
       rintro e w2 ⟨g, cap, ps, rsA, rfl, h1, h2, h3, h4, h5, h6⟩
       have H2 := Lib.hid h2
       have H3 := Lib.hid h3
       have H6 := Lib.hid h6
       clear h2 h3 h6))
  go_ret2
  exact ⟨g, cap, ps, rsA, rfl, h1, H2.out, H3.out, h4, h5, H6.out⟩

end Go.Proofs.YtfppgplboomdbaaGreatDoor

namespace Go.Proofs.YtfppgplboomdbaaGreatDoor
open Go.RowKit

def ifV (p : Nat) : Value := .iface 111 (.pointer (some ⟨p, 0, none⟩))
theorem Tryz.i173 : (Tryz.prog.info? 173).map (fun i => (i.zero, i.size, i.bytes)) = some (some .nilIface, 1, 16) := by kernel_rfl
structure KidsAt (w : World) (fp : Nat) (nd : Nat → Nd) (ks : List Nat) (ps : List Nat) : Prop where
  len : ps.length = ks.length
  ent : ∀ (j k p : Nat), ks[j]? = some k → ps[j]? = some p → ∃ r, EntAt w p r (.pointer (some ⟨fp, 0, none⟩)) ∧ nameOfR r = nmN nd k ∧ RecIs nd (nid nd k) k (nd k).f.dir r
def RddPost (fp : Nat) (nd : Nat → Nd) (ks : List Nat) (w : World) (e : Ending) (w' : World) : Prop := ∃ v ps, e = .returned (.tuple #[v, .nilIface]) ∧ OwnS w' w.heap.size 1 v ps.length (ps.map ifV) ∧ KidsAt w' fp nd ks ps ∧ Below w.heap.size w w'
def RddFull (fp : Nat) (nd : Nat → Nd) (ks : List Nat) (w : World) (e : Ending) (w' : World) : Prop := ∃ v ps, e = .returned (.tuple #[v, .nilIface]) ∧ OwnS w' w.heap.size 1 v ps.length (ps.map ifV) ∧ KidsAt w' fp nd ks ps ∧ Below w.heap.size w w' ∧ ∀ (j p : Nat), ps[j]? = some p → w.heap.size ≤ p
theorem take_drop_snoc {ps : List Nat} {q p : Nat} (h : ps[q]? = some p) (hq : 2 ≤ q) : (ps.take (q + 1)).drop 2 = (ps.take q).drop 2 ++ [p] := by
  have hl := (List.getElem?_eq_some_iff.1 h).1
  rw [List.take_add_one, h, List.drop_append_of_le_length (by rw [List.length_take]; omega)]; rfl
theorem take_drop_nil {ps : List Nat} {q : Nat} (hq : q ≤ 2) : (ps.take q).drop 2 = [] := List.drop_eq_nil_of_le (by rw [List.length_take]; omega)
set_option maxHeartbeats 4000000 in
set_option maxRecDepth 100000 in
theorem readDir_full {B fp mb pt rd n P : Nat} {D vol : Bs} {nd : Nat → Nd} {ks : Nat → List Nat} {ds : List Nat} (tr : Tr D nd ks n ds P vol) (x0 : Nat) (s : ByteArray) (rr : RecE) (w : World) (hF : FsAt w B fp mb pt rd D (esOf nd ds)) (hE : EntAt w rd rr (.pointer (some ⟨fp, 0, none⟩))) (hrx : rr.ext = (nd 0).ext) (hrs : rr.size = 2048) (hrd : rd < B) (hx : x0 < n) (hdx : (nd x0).f.dir = true) (hp : PathOf nd x0 s) :
    Calls Tryz.prog 51 #[.pointer (some ⟨fp, 0, none⟩), .string s] w fun e w' => RddFull fp nd (ks x0) w e w' := by
  obtain ⟨i173, hi, hz0, hz1, hz2⟩ := info_parts Tryz.i173
  obtain ⟨f1, f2, f3⟩ := hp.facts tr.good hx
  have HV := Lib.hid (validatePath_any s w f1 f2 hF.tabs f3)
  have HF := Lib.hid hF
  have HE := Lib.hid hE
  have HP := Lib.hid hp
  have hFhi := hF.hi
  clear hF hE hp f1 f2 f3
  go_enter Tryz.func51, Tryz.ntmps51
  go_upto_region 5 with (first
    | (go_at_call 68
       refine HV.out.mono ?_
       rintro e w2 ⟨rfl, hb2⟩
       have HB2 := Lib.hid hb2
       have hF2 := HF.out.below hb2
       have hws := hF2.ws
       have HF2 := Lib.hid hF2
       have hs2 := hb2.size
       clear hb2 hF2))
  go_upto_region 14 with (first
    | (go_at_call 71
       refine (readDir0_any tr x0 s rr w2 HF2.out (HE.out.below HB2.out) hrx hrs hrd hx hdx HP.out).mono ?_
       rintro e w3 ⟨g, cap, ps, rsA, rfl, h1, h2, h3, h4, h5, h6⟩
       have H2 := Lib.hid h2
       have H3 := Lib.hid h3
       have H4 := Lib.hid h4
       have H6 := Lib.hid h6
       have hs3 := h6.size
       clear h2 h3 h4 h6))
  have hlen := H3.out.len
  obtain ⟨r0, r1, rs, hrsA, hr0, hr1, _, hrsl, hkids⟩ := H4.out.kids tr.tree tr.good hx
  have hl2 : rsA.length = rs.length + 2 := by rw [hrsA]; rfl
  have HL2 := Lib.hid hl2
  have HRS := Lib.hid hrsl
  clear hl2 hrsl
  have HA := Lib.hid hrsA
  have HK := Lib.hid hkids
  have HL := Lib.hid hlen
  clear hws hlen hrsA hkids
  go_wp2
  go_loopw [7, 56] (fun ov iv wr => ∃ (q : Nat) (ad : Option Addr) (m cp : Nat) (out : List Nat), iv = .int .i64 q ∧ q ≤ rsA.length ∧ ov = .slice ad m cp ∧ out = (ps.take q).drop 2 ∧ out.length = m ∧ m ≤ q ∧ OwnS wr w3.heap.size 1 (.slice ad m cp) m (out.map ifV) ∧ Below w3.heap.size w3 wr) (fun _ iv _ => rsA.length - (intOf iv).toNat)
  case atStart => exact ⟨0, none, 0, 0, [], rfl, Nat.zero_le _, rfl, (take_drop_nil (by omega)).symm, rfl, Nat.zero_le _, OwnS.nil _ _ _, Below.refl _ _⟩
  case round =>
    obtain ⟨q, ad, m, cp, out, rfl, hq, rfl, hout, hol, hmq, hown, hbel⟩ := hrel
    obtain ⟨w0, rfl⟩ : ∃ w0 : World, w0 = wr := ⟨_, rfl⟩
    have hsz := hbel.size
    have HOWN := Lib.hid hown
    have HBEL := Lib.hid hbel
    have hbel' := HBEL
    have HOL := Lib.hid hol
    have HOUT := Lib.hid hout
    clear hown hol hout
    by_cases hql : q < rsA.length
    · obtain ⟨rq, hrq⟩ : ∃ rq, rsA[q]? = some rq := ⟨rsA[q], List.getElem?_eq_getElem hql⟩
      have hpq : ps[q]? = some (ps[q]'(by have := HL.out; omega)) := List.getElem?_eq_getElem _
      generalize ps[q]'(by have := HL.out; omega) = pq at hpq
      have hE0 := (H3.out.ent q pq rq hpq hrq).2.below hbel
      obtain ⟨_, _, _, y12, y13, _, _, hpql⟩ := hE0.full
      have hgc : w0.cell? ⟨g, q, none⟩ = some (.pointer (some ⟨pq, 0, none⟩)) := (hbel'.out.cell (p := ⟨g, q, none⟩) h1).trans (H2.out q pq hpq)
      have HPQ := Lib.hid hpq
      have hrl1 : rsA.length ≤ 1000 := h5
      by_cases hq2 : q < 2
      · have hskip : selfB rq = true ∨ parB rq = true := by
          rw [HA.out] at hrq
          rcases (by omega : q = 0 ∨ q = 1) with rfl | rfl
          · simp at hrq; subst hrq; exact .inl hr0
          · simp at hrq; subst hrq; exact .inr hr1
        have hnil : (ps.take (q + 1)).drop 2 = [] := take_drop_nil (by omega)
        have hnil0 : (ps.take q).drop 2 = [] := take_drop_nil (by omega)
        have hm0 : out = [] := by rw [HOUT.out, hnil0]
        have hmz : m = 0 := by rw [← HOL.out, hm0]; rfl
        clear hpq hrq hE0
        cases hs : selfB rq with
        | true =>
          rw [hs] at y12
          go_wp2
          exact ⟨⟨q + 1, ad, m, cp, out, by simp, by omega, rfl, by rw [hm0, hnil], HOL.out, by omega, HOWN.out, HBEL.out⟩, by simp [intOf]; omega⟩
        | false =>
          rw [hs] at y12
          have hpp := hskip.resolve_left (by rw [hs]; simp)
          rw [hpp] at y13
          go_wp2
          exact ⟨⟨q + 1, ad, m, cp, out, by simp, by omega, rfl, by rw [hm0, hnil], HOL.out, by omega, HOWN.out, HBEL.out⟩, by simp [intOf]; omega⟩
      · have hrq2 : rs[q - 2]? = some rq := by
          rw [HA.out] at hrq
          obtain ⟨d, rfl⟩ : ∃ d, q = d + 2 := ⟨q - 2, by omega⟩
          rw [List.getElem?_cons_succ, List.getElem?_cons_succ] at hrq
          exact hrq
        have hkq : (ks x0)[q - 2]? = some ((ks x0)[q - 2]'(by have := HL2.out; have := HRS.out; omega)) := List.getElem?_eq_getElem _
        obtain ⟨hs, hpp, _, _⟩ := HK.out (q - 2) _ rq hkq hrq2
        rw [hs] at y12
        rw [hpp] at y13
        have hsn : (ps.take (q + 1)).drop 2 = out ++ [pq] := by rw [take_drop_snoc hpq (by omega), HOUT.out]
        have HSN := Lib.hid hsn
        clear hpq hrq hE0 hkq hrq2 hsn
        go_wp2_with (first
          | (refine wpList_append_ownS' rfl (.tmp 70) (.tmp 73) 162 rfl w3.heap.size 173 i173 .nilIface 1 16 Tryz.underlying162 hi hz0 hz1 hz2 rfl (by decide) (.slice ad m cp) m _ rfl (HOWN.out.alloc _) ⟨_, 0, none⟩ 1 1 [ifV pq] rfl rfl (row_at_eq _ _ 173 _ (by simp)) (by intro u hu; simp at hu; subst hu; rfl) (by omega) (by unfold maxLen; omega) (by omega) (by simp; omega) ?_
             intro v5 w5 hA
             have HAP := Lib.hid hA
             clear hA))
        obtain ⟨ad5, cap5, e5⟩ := HAP.out.own.slice
        have hown := HAP.out.own
        rw [e5] at hown
        have hbb := (HBEL.out.alloc hsz (.cells #[ifV pq] 173)).trans HAP.out.below
        rw [← show (out ++ [pq]).map ifV = out.map ifV ++ [ifV pq] from by rw [List.map_append]; rfl] at hown
        have hol2 : (out ++ [pq]).length = m + 1 := by rw [List.length_append, HOL.out]; rfl
        go_roundw
        case rel =>
          exact ⟨q + 1, ad5, m + 1, cap5, out ++ [pq], by go_num, by omega, e5, HSN.out.symm, hol2, by omega, hown, hbb⟩
        case measure => simp [intOf]; omega
    · have hqq : q = rsA.length := by omega
      go_wp2
      go_ret2
      have hps : out = ps.drop 2 := by rw [HOUT.out, hqq, List.take_of_length_le (by have := HL.out; omega)]
      have hown := HOWN.out
      have hb0 : Below w.heap.size w w0 := (HB2.out.trans (H6.out.mono hs2)).trans (HBEL.out.mono (by omega))
      refine ⟨_, out, rfl, ?_, ⟨?_, fun j k p hk hp => ?_⟩, hb0, fun j p hp => ?_⟩
      · rw [HOL.out]; exact hown.mono (by omega)
      · rw [hps, List.length_drop, HL.out, HL2.out, HRS.out]; omega
      · rw [hps, List.getElem?_drop] at hp
        have hjl : j < (ks x0).length := (List.getElem?_eq_some_iff.1 hk).1
        have hrj : rs[j]? = some (rs[j]'(by have := HRS.out; omega)) := List.getElem?_eq_getElem _
        generalize rs[j]'(by have := HRS.out; omega) = r at hrj
        obtain ⟨_, _, hnm, hri⟩ := HK.out j k r hk hrj
        have hrA : rsA[2 + j]? = some r := by
          rw [HA.out, Nat.add_comm, List.getElem?_cons_succ, List.getElem?_cons_succ]; exact hrj
        exact ⟨r, (H3.out.ent (2 + j) p r hp hrA).2.below HBEL.out, hnm, hri⟩
      · rw [hps, List.getElem?_drop] at hp
        have hpl := (List.getElem?_eq_some_iff.1 hp).1
        have hrA : rsA[2 + j]? = some (rsA[2 + j]'(by have := HL.out; omega)) := List.getElem?_eq_getElem _
        have := (H3.out.ent (2 + j) p _ hp hrA).1
        omega
theorem readDir_any {B fp mb pt rd n P : Nat} {D vol : Bs} {nd : Nat → Nd} {ks : Nat → List Nat} {ds : List Nat} (tr : Tr D nd ks n ds P vol) (x0 : Nat) (s : ByteArray) (rr : RecE) (w : World) (hF : FsAt w B fp mb pt rd D (esOf nd ds)) (hE : EntAt w rd rr (.pointer (some ⟨fp, 0, none⟩))) (hrx : rr.ext = (nd 0).ext) (hrs : rr.size = 2048) (hrd : rd < B) (hx : x0 < n) (hdx : (nd x0).f.dir = true) (hp : PathOf nd x0 s) :
    Calls Tryz.prog 51 #[.pointer (some ⟨fp, 0, none⟩), .string s] w fun e w' => RddPost fp nd (ks x0) w e w' :=
  (readDir_full tr x0 s rr w hF hE hrx hrs hrd hx hdx hp).mono (fun e w' h => by
    obtain ⟨v, ps, h1, h2, h3, h4, _⟩ := h
    exact ⟨v, ps, h1, h2, h3, h4⟩)

end Go.Proofs.YtfppgplboomdbaaGreatDoor
