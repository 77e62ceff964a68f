/- Part of the proofs of laws.FnIsoTree and laws.FnIsoAt: lemmas and contracts of functions that the two laws reach, each under the hypotheses that its own statement names. -/
import Derived.Test.YtfppgplboomdbaaGreatDoorMPart17
namespace Go.Proofs.YtfppgplboomdbaaGreatDoor
open Go.RowKit

def LabAt (w : World) (fp pv : Nat) (vid : ByteArray) : Prop := w.cell? ⟨fp, 7, none⟩ = some (.pointer (some ⟨pv, 0, none⟩)) ∧ w.cell? ⟨pv, 1, none⟩ = some (.string vid)
theorem LabAt.below {w w' : World} {fp pv : Nat} {vid : ByteArray} (h : LabAt w fp pv vid) (hb : Below w.heap.size w w') : LabAt w' fp pv vid :=
  ⟨(hb.cell (p := ⟨fp, 7, none⟩) (World.block_lt_of_cell? w _ h.1)).trans h.1, (hb.cell (p := ⟨pv, 1, none⟩) (World.block_lt_of_cell? w _ h.2)).trans h.2⟩
theorem Grow.of_nil {w w' : World} {v : Value} (h : Grow w (.slice none 0 0) v w') : Below w.heap.size w w' := h.below (Nat.le_refl _) (fun k hk => by simp [Value.ownBlock] at hk)
set_option maxRecDepth 100000 in
theorem info73 (RC : List Value) (h : RC.length = 4) : (Tryz.prog.info? 73).map (·.size) = some RC.length := by rw [h]; rfl
set_option maxRecDepth 100000 in
theorem roads_row (fp xv : Nat) : ∃ RC : List Value, RC = [fnV 50 fp, fnV 51 fp, fnV 52 fp, .func (.func 53) #[] #[.pointer (some ⟨xv, 0, none⟩)]] ∧ roadsV fp xv = .agg RC.toArray ∧ (Tryz.prog.info? 73).map (·.size) = some RC.length ∧ ∀ (w : World) (b : Nat) (t : TypeId), w.heap[b]? = some (.cells #[fnV 50 fp, fnV 51 fp, fnV 52 fp, .func (.func 53) #[] #[.pointer (some ⟨xv, 0, none⟩)]] t (0, 0)) → w.rangeAt b 0 RC :=
  ⟨_, rfl, rfl, rfl, fun w b t h j v hv => by
    rw [Nat.zero_add]
    refine (cell_of_row _ _ j _ _ _ h).trans ?_
    simpa using hv⟩
set_option maxHeartbeats 1600000 in
set_option maxRecDepth 100000 in
theorem opened_any {B fp mb pt rd n P : Nat} {D vol : Bs} {nd : Nat → Nd} {ks : Nat → List Nat} {ds : List Nat} (tr : Tr D nd ks n ds P vol) (xv pv : Nat) (vid : ByteArray) (rr : RecE) (ea : Addr) (hrx : rr.ext = (nd 0).ext) (hrs : rr.size = 2048) (w : World) (hR : RdAt w B fp mb pt rd xv ea D (esOf nd ds) rr) (hl : LabAt w fp pv vid) (hlen : (pre nd ks 7 0).length ≤ 499) :
    Calls Tryz.prog 29 #[roadsV fp xv] w fun e w' => ∃ v ls, e = .returned (.tuple #[.string vid, v, .bool true, .bool true]) ∧ Leaves nd (pre nd ks 7 0) ls ∧ OwnS w' B 15 v ls.length (lsC ls) ∧ Below w.heap.size w w' := by
  obtain ⟨RC, hRC, hrv, hi4, hrow⟩ := roads_row fp xv
  have HW := Lib.hid (walk_any (B := B) (fp := fp) (mb := mb) (pt := pt) (rd := rd) tr xv rr ea hrx hrs 7 0 tr.tree.pos tr.tree.root (by omega))
  have HR := Lib.hid hR
  have HL := Lib.hid hl
  have HI4 := Lib.hid hi4
  have HRV := Lib.hid hrv
  have HLEN := Lib.hid hlen
  clear hR hl hi4 hRC hlen hrv
  go_enter Tryz.func29, Tryz.ntmps29
  go_upto_region 1 with (fail)
  generalize hw1 : w.alloc _ = w1
  have hrow1 : w1.heap[w.heap.size]? = some (.cells #[fnV 50 fp, fnV 51 fp, fnV 52 fp, .func (.func 53) #[] #[.pointer (some ⟨xv, 0, none⟩)]] 73 (0, 0)) := by rw [← hw1]; exact heap_alloc_new w _
  have hb1 : Below w.heap.size w w1 := by rw [← hw1]; exact (Below.refl _ _).alloc (Nat.le_refl _) _
  have hsz1 : w1.heap.size = w.heap.size + 1 := by rw [← hw1]; simp
  have hrc := hrow w1 _ _ hrow1
  have hcall := HW.out 0 ⟨#[46]⟩ (.slice none 0 0) [] w1 (HR.out.below hb1) (.inl ⟨rfl, rfl⟩) (OwnS.nil _ _ _) (by have := HLEN.out; omega)
  rw [HRV.out] at hcall
  have HB1 := Lib.hid hb1
  have HROW1 := Lib.hid hrow1
  have HRC := Lib.hid hrc
  have HCALL := Lib.hid hcall
  clear hb1 hw1 hrow1 hrc hcall hrow
  go_upto_region 2 with (first
    | (refine wpList_load_mid rfl 73 (.tmp 1) rfl w.heap.size 0 rfl RC _ HRC.out Tryz.underlying73 rfl HI4.out ?_)
    | (go_at_call 59
       refine HCALL.out.mono ?_
       rintro e w2 ⟨v2, ls, rfl, hls, hown, hg⟩
       have hb2 := hg.of_nil
       have HLS := Lib.hid hls
       have HOWN := Lib.hid hown
       have HB2 := Lib.hid hb2
       have hs2 := hb2.size
       clear hls hown hg hb2))
  have f0 : w2.cell? ⟨w.heap.size, 0, none⟩ = some (fnV 50 fp) := by
    rw [World.cell?_of_block (w := w1) (a := ⟨w.heap.size, 0, none⟩) (HB2.out.block w.heap.size (by omega))]
    exact (cell_of_row _ _ 0 _ _ _ HROW1.out).trans rfl
  unfold fnV at f0
  have hl2 : LabAt w2 fp pv vid := (HL.out.below HB1.out).below HB2.out
  have HLAB := Lib.hid (label_any fp pv vid w2 hl2.1 hl2.2)
  clear hl2
  go_wp2_with (first
    | (go_at_call 50
       refine HLAB.out.mono ?_
       rintro e w3 ⟨rfl, hw⟩
       rw [hw]
       clear hw))
  refine bodyPost_ret (v := .tuple #[.string vid, v2, .bool true, .bool true]) (by simp [results, Tryz.results29, go_sem]) rfl ?_
  have h := HOWN.out
  rw [Nat.zero_add, List.nil_append] at h
  exact ⟨v2, ls, rfl, HLS.out, h, HB1.out.trans (HB2.out.mono (by omega))⟩
set_option maxHeartbeats 1600000 in
set_option maxRecDepth 100000 in
theorem at_any {B fp mb pt rd n P : Nat} {D vol : Bs} {nd : Nat → Nd} {ks : Nat → List Nat} {ds : List Nat} (tr : Tr D nd ks n ds P vol) (y o m xv : Nat) (s : ByteArray) (rr : RecE) (ea : Addr) (hrx : rr.ext = (nd 0).ext) (hrs : rr.size = 2048) (w : World) (hR : RdAt w B fp mb pt rd xv ea D (esOf nd ds) rr)
    (hy1 : 1 ≤ y) (hy : y < n) (hp : s.data.toList = joinP (pth nd y)) (hfile : (nd y).f.dir = false) (ho : o ≤ 100000) (hm : m ≤ 16777216) :
    Calls Tryz.prog 31 #[roadsV fp xv, .string s, .int .i64 (o : Int), .int .i64 (m : Int)] w fun e w' => RdFPost nd y o m w e w' := by
  have HR := Lib.hid hR
  clear hR
  have h1 : (0 : Int) ≤ (o : Int) := by omega
  have h2 : (0 : Int) ≤ (m : Int) := by omega
  have h3 : (m : Int) ≤ 16777216 := by omega
  go_enter Tryz.func31, Tryz.ntmps31
  go_upto_region 3 with (fail)
  generalize hw1 : w.alloc _ = w1
  have hrow1 : w1.heap[w.heap.size]? = some (.cells #[fnV 50 fp, fnV 51 fp, fnV 52 fp, .func (.func 53) #[] #[.pointer (some ⟨xv, 0, none⟩)]] 73 (0, 0)) := by rw [← hw1]; exact heap_alloc_new w _
  have hb1 : Below w.heap.size w w1 := by rw [← hw1]; exact (Below.refl _ _).alloc (Nat.le_refl _) _
  have f3 : w1.cell? ⟨w.heap.size, 3, none⟩ = some (.func (.func 53) #[] #[.pointer (some ⟨xv, 0, none⟩)]) := (cell_of_row _ _ 3 _ _ _ hrow1).trans rfl
  have hR1 := HR.out.below hb1
  have HC := Lib.hid (fileRead_any tr y o m xv (m : Int) s rr ea w1 hR1.fs hR1.ent hrx hrs hR1.rdl hR1.eof hR1.cap hy1 hy hp hfile ho (.inr rfl) hm)
  have HB1 := Lib.hid hb1
  clear hrow1 hb1 hR1 hw1
  go_wp2_with (first
    | (go_at_call 53
       refine HC.out.mono ?_
       rintro e w2 ⟨rfl, hb2⟩
       have HB2 := Lib.hid hb2
       clear hb2))
  go_ret2
  exact ⟨rfl, HB1.out.trans (HB2.out.mono HB1.out.size)⟩

end Go.Proofs.YtfppgplboomdbaaGreatDoor

namespace Go.Proofs.YtfppgplboomdbaaGreatDoor
open Go.RowKit

set_option maxHeartbeats 1000000 in
theorem zzDays_one (w : World) : Calls Tryz.prog 129 #[.int .i64 2020, .int .i64 1] w fun e w' => e = .returned (.int .i64 31) ∧ w' = w := by
  go_enter Tryz.func129, Tryz.ntmps129
  go_wp2
  go_ret
  exact ⟨rfl, rfl⟩
def numOf (l : Bs) : Nat := l.foldl (fun a b => a * 10 + (b.toNat - 48)) 0
theorem numOf_snoc (l : Bs) (b : UInt8) : numOf (l ++ [b]) = numOf l * 10 + (b.toNat - 48) := by simp [numOf]
theorem numOf_lt : ∀ (l : Bs) (a : Nat), (∀ b ∈ l, b.toNat ≤ 57) → l.foldl (fun a b => a * 10 + (b.toNat - 48)) a < (a + 1) * 10 ^ l.length
  | [], a, _ => by simp
  | b :: l, a, h => by
    have h1 := numOf_lt l (a * 10 + (b.toNat - 48)) (fun x hx => h x (by simp [hx]))
    have h2 := h b (by simp)
    have h3 : a * 10 + (b.toNat - 48) + 1 ≤ (a + 1) * 10 := by omega
    rw [List.foldl_cons, List.length_cons, Nat.pow_succ]
    refine Nat.lt_of_lt_of_le h1 (Nat.le_trans (Nat.mul_le_mul_right _ h3) ?_)
    rw [Nat.mul_assoc, Nat.mul_comm 10]
    exact Nat.le_refl _
theorem numOf_le (l : Bs) (h : ∀ b ∈ l, b.toNat ≤ 57) : numOf l < 10 ^ l.length := by
  have := numOf_lt l 0 h
  simpa [numOf] using this
def digs (s : ByteArray) : Prop := s.size ≤ 4 ∧ ∀ b ∈ s.data.toList, 48 ≤ b.toNat ∧ b.toNat ≤ 57
def numV (s : ByteArray) : Value := .int .i64 (numOf s.data.toList : Nat)
set_option maxHeartbeats 2000000 in
set_option maxRecDepth 100000 in
theorem zzNumbers_any (g n c : Nat) (ss : List ByteArray) (w : World) (hn : ss.length = n) (hn1 : n ≤ 100) (hc : ∀ (j : Nat) s, ss[j]? = some s → w.cell? ⟨g, j, none⟩ = some (.string s)) (hd : ∀ s ∈ ss, digs s) (hg : g < w.heap.size) :
    Calls Tryz.prog 128 #[.slice (some ⟨g, 0, none⟩) n c] w fun e w' => ∃ v, e = .returned (.tuple #[v, .bool true]) ∧ OwnS w' w.heap.size 1 v n (ss.map numV) ∧ Below w.heap.size w w' := by
  obtain ⟨i3, z3, hi3, hz3, hs3, hb3', hc3⟩ := info_parts3 Tryz.i3
  have HC := Lib.hid hc
  have HD := Lib.hid hd
  have HN := Lib.hid hn
  clear hc hd hn
  go_enter Tryz.func128, Tryz.ntmps128
  go_wp2
  go_loopw [2, 10] (fun ov iv wr => ∃ (q : Nat) (ad : Option Addr) (cp : Nat), iv = .int .i64 (q : Int) ∧ q ≤ n ∧ ov = .slice ad q cp ∧ OwnS wr w.heap.size 1 (.slice ad q cp) q ((ss.take q).map numV) ∧ Below w.heap.size w wr) (fun _ iv _ => n - (intOf iv).toNat)
  case atStart => exact ⟨0, none, 0, rfl, Nat.zero_le _, rfl, OwnS.nil _ _ _, Below.refl _ _⟩
  case round =>
    obtain ⟨q, ad, cp, rfl, hq, rfl, hown, hbel⟩ := hrel
    obtain ⟨w0, rfl⟩ : ∃ w0 : World, w0 = wr := ⟨_, rfl⟩
    have hsz := hbel.size
    have HOWN := Lib.hid hown
    have HBEL := Lib.hid hbel
    clear hown hbel
    by_cases hql : q < n
    · obtain ⟨s, hs⟩ : ∃ s, ss[q]? = some s := ⟨ss[q]'(by have := HN.out; omega), List.getElem?_eq_getElem _⟩
      have hgc : w0.cell? ⟨g, q, none⟩ = some (.string s) := (HBEL.out.cell (p := ⟨g, q, none⟩) hg).trans (HC.out q s hs)
      obtain ⟨hd4, hdd⟩ := HD.out s (List.mem_of_getElem? hs)
      have HS := Lib.hid hs
      have HDD := Lib.hid hdd
      clear hs hdd
      go_upto_block 2 with (fail)
      go_cut [2, 3, 6, 7] from 11 to 37 (fun t2 t3 t6 t7 wx => t2 = .slice ad q cp ∧ t6 = .int .i64 (numOf s.data.toList : Nat) ∧ wx = w0)
      case first =>
        go_wp2
        go_loopw [2, 6, 16] (fun ov nv iv wr => ∃ (j : Nat), ov = .slice ad q cp ∧ iv = .int .i64 (j : Int) ∧ j ≤ s.size ∧ nv = .int .i64 (numOf (s.data.toList.take j) : Nat) ∧ wr = w0) (fun _ _ iv _ => s.size - (intOf iv).toNat)
        case atStart => exact ⟨0, rfl, rfl, Nat.zero_le _, rfl, rfl⟩
        case round =>
          obtain ⟨j, rfl, rfl, hj, rfl, rfl⟩ := hrel
          by_cases hjl : j < s.size
          · have hsl : s.data.toList.length = s.size := rfl
            obtain ⟨b, hb⟩ : ∃ b, s.data.toList[j]? = some b := ⟨s.data.toList[j]'(by omega), List.getElem?_eq_getElem _⟩
            have hbd := HDD.out b (List.mem_of_getElem? hb)
            have hbb : s[j]'hjl = b := bs_at rfl hjl hb
            have hnl := numOf_le (s.data.toList.take j) (fun x hx => (HDD.out x (List.mem_of_mem_take hx)).2)
            have hpw : 10 ^ (s.data.toList.take j).length ≤ 10 ^ 3 := Nat.pow_le_pow_right (by omega) (by rw [List.length_take]; omega)
            have hsn : numOf (s.data.toList.take (j + 1)) = numOf (s.data.toList.take j) * 10 + (b.toNat - 48) := by rw [List.take_add_one, hb]; exact numOf_snoc _ _
            obtain ⟨x, hx⟩ : ∃ x, numOf (s.data.toList.take j) = x := ⟨_, rfl⟩
            rw [hx] at hnl hsn ⊢
            have hx1 : x ≤ 1000 := by omega
            have hb1 : ¬ ((b.toNat : Int) < 48) := by omega
            have hb2 : ¬ ((57 : Int) < (b.toNat : Int)) := by omega
            rw [← hbb] at hb1 hb2
            have HSN := Lib.hid hsn
            have HBB := Lib.hid hbb
            have HBD := Lib.hid hbd
            clear hsn hbb hbd hb hnl hpw hsl hx
            go_wp2
            refine ⟨⟨j + 1, rfl, by go_num, by omega, ?_, trivial⟩, by simp [intOf]; omega⟩
            rw [HSN.out, HBB.out]
            have := HBD.out
            congr 1
            omega
          · have hjj : j = s.size := by omega
            go_wp2
            go_meet
            refine ⟨rfl, ?_, rfl⟩
            have e : s.data.toList.take j = s.data.toList := List.take_of_length_le (by rw [hjj]; exact Nat.le_refl _)
            rw [e]
      case rest =>
        obtain ⟨rfl, rfl, rfl⟩ := hcut
        have HGC := Lib.hid hgc
        clear hgc
        go_upto_region 12 with (fail)
        go_wp2_with (first
          | (refine wpList_append_ownS' rfl (.tmp 38) (.tmp 40) 59 rfl w.heap.size 3 i3 z3 1 8 Tryz.underlying59 hi3 hz3 hs3 hb3' hc3 (by decide) (.slice ad q cp) q _ rfl (HOWN.out.alloc _) ⟨_, 0, none⟩ 1 1 [numV s] rfl rfl (row_at _ _ 3) (fun u hu => by simp at hu; subst hu; rfl) (by omega) (by unfold maxLen; omega) (by omega) (by simp; omega) ?_
             intro v5 w5 hA
             have HAP := Lib.hid hA
             clear hA))
        obtain ⟨ad5, cap5, rfl⟩ := HAP.out.own.slice
        have hown := HAP.out.own
        go_roundw
        case rel =>
          refine ⟨q + 1, ad5, cap5, by go_num, by omega, rfl, ?_, (HBEL.out.alloc hsz _).trans HAP.out.below⟩
          rw [List.take_add_one, HS.out, List.map_append]
          exact hown
        case measure => simp [intOf]; omega
    · go_wp2
      go_ret2
      have hqn : q = n := by omega
      refine ⟨_, rfl, ?_, HBEL.out⟩
      have h := HOWN.out
      rw [hqn, List.take_of_length_le (by have := HN.out; omega)] at h
      rw [hqn]
      exact h
def dateS : List ByteArray := [⟨#[50,48,50,48]⟩, ⟨#[48,49]⟩, ⟨#[48,49]⟩, ⟨#[48,48]⟩, ⟨#[48,48]⟩, ⟨#[48,48]⟩, ⟨#[48,48]⟩]
theorem dateS_digs : ∀ s ∈ dateS, digs s := by
  intro s hs
  simp only [dateS, List.mem_cons, List.not_mem_nil, or_false] at hs
  rcases hs with rfl | rfl | rfl | rfl | rfl | rfl | rfl <;> exact ⟨by decide, by decide⟩
theorem dateS_num : dateS.map numV = [.int .i64 2020, .int .i64 1, .int .i64 1, .int .i64 0, .int .i64 0, .int .i64 0, .int .i64 0] := rfl
def DecPost (w : World) (e : Ending) (w' : World) : Prop := (∃ a b c : Int, e = .returned (.tuple #[.agg #[.int .i64 a, .int .i64 b, .int .i64 c], .nilIface])) ∧ Below w.heap.size w w'
set_option maxHeartbeats 2000000 in
set_option maxRecDepth 100000 in
theorem decTime_any (g o cg : Nat) (w : World) (hr : w.rangeAt g o (bcs someTime.data.toList)) (hg : g < w.heap.size) (hc : 17 ≤ cg) :
    Calls Tryz.prog 106 #[.slice (some ⟨g, o, none⟩) 17 cg] w fun e w' => DecPost w e w' := by
  have sub : ∀ (w' : World) (a : Nat) (l : Bs) (cc : Nat), Below w.heap.size w w' → seg someTime.data.toList a l.length = l → a + l.length ≤ 17 → (convert 26 9 (.slice (some ⟨g, o + a, none⟩) l.length cc)).run Tryz.prog w' = .ok (.string ⟨l.toArray⟩) w' := fun w' a l cc hb hl hal => by
    refine bytes_str ?_ rfl cc
    refine rangeAt_sub (L := someTime.data.toList) ?_ a (fun k hk => ?_)
    · intro j v hv
      exact (hb.cell (p := ⟨g, o + j, none⟩) hg).trans (hr j v hv)
    · have e : (seg someTime.data.toList a l.length)[k]? = l[k]? := by rw [hl]
      rw [← e]
      unfold seg
      rw [List.getElem?_take, if_pos hk, List.getElem?_drop]
  go_enter Tryz.func106, Tryz.ntmps106
  go_upto_region 1 with (fail)
  generalize hw1 : w.alloc _ = w1
  have hb1 : Below w.heap.size w w1 := by rw [← hw1]; exact (Below.refl _ _).alloc (Nat.le_refl _) _
  have hg1 : g < w1.heap.size := Nat.lt_of_lt_of_le hg hb1.size
  have hsz1 : w1.heap.size = w.heap.size + 1 := by rw [← hw1]; simp
  have t0 : w1.cell? ⟨w.heap.size, 0, none⟩ = some (.int .i64 0) := by rw [← hw1]; simp
  have t1 : w1.cell? ⟨w.heap.size, 1, none⟩ = some (.int .i64 0) := by rw [← hw1]; simp
  have t2 : w1.cell? ⟨w.heap.size, 2, none⟩ = some (.int .i64 0) := by rw [← hw1]; simp
  have tz : ∀ k, w1.frozen? ⟨w.heap.size, k, none⟩ = false := fun k => by rw [← hw1]; simp
  have k1 : ∀ cc, (convert 26 9 (.slice (some ⟨g, o, none⟩) 4 cc)).run Tryz.prog w1 = .ok (.string ⟨#[50,48,50,48]⟩) w1 := fun cc => sub w1 0 [50,48,50,48] cc hb1 rfl (by decide)
  have k2 : ∀ cc, (convert 26 9 (.slice (some ⟨g, o + 4, none⟩) 2 cc)).run Tryz.prog w1 = .ok (.string ⟨#[48,49]⟩) w1 := fun cc => sub w1 4 [48,49] cc hb1 rfl (by decide)
  have k3 : ∀ cc, (convert 26 9 (.slice (some ⟨g, o + 6, none⟩) 2 cc)).run Tryz.prog w1 = .ok (.string ⟨#[48,49]⟩) w1 := fun cc => sub w1 6 [48,49] cc hb1 rfl (by decide)
  have k4 : ∀ cc, (convert 26 9 (.slice (some ⟨g, o + 8, none⟩) 2 cc)).run Tryz.prog w1 = .ok (.string ⟨#[48,48]⟩) w1 := fun cc => sub w1 8 [48,48] cc hb1 rfl (by decide)
  have k5 : ∀ cc, (convert 26 9 (.slice (some ⟨g, o + 10, none⟩) 2 cc)).run Tryz.prog w1 = .ok (.string ⟨#[48,48]⟩) w1 := fun cc => sub w1 10 [48,48] cc hb1 rfl (by decide)
  have k6 : ∀ cc, (convert 26 9 (.slice (some ⟨g, o + 12, none⟩) 2 cc)).run Tryz.prog w1 = .ok (.string ⟨#[48,48]⟩) w1 := fun cc => sub w1 12 [48,48] cc hb1 rfl (by decide)
  have k7 : ∀ cc, (convert 26 9 (.slice (some ⟨g, o + 14, none⟩) 2 cc)).run Tryz.prog w1 = .ok (.string ⟨#[48,48]⟩) w1 := fun cc => sub w1 14 [48,48] cc hb1 rfl (by decide)
  have k8 : w1.cell? ⟨g, o + 16, none⟩ = some (.int .u8 0) := (hb1.cell (p := ⟨g, o + 16, none⟩) hg).trans (hr 16 _ rfl)
  have HB1 := Lib.hid hb1
  have HSZ1 := Lib.hid hsz1
  clear hw1 hb1 sub hr hsz1
  go_upto_region 9 with (fail)
  clear k1 k2 k3 k4 k5 k6 k7 k8
  go_upto_region 10 with (first
    | (go_at_call 128
       refine (zzNumbers_any w1.heap.size 7 7 dateS _ rfl (by omega) (fun j s hs => by
         have h := row_at w1 (dateS.map Value.string) 9 j (.string s) (by rw [List.getElem?_map, hs]; rfl)
         rw [Addr.add_mid, Nat.zero_add] at h
         exact h) dateS_digs (by simp)).mono ?_
       rintro e w2 ⟨v, rfl, hown, hb2⟩
       have hb12 : Below w1.heap.size w1 w2 := ((Below.refl _ w1).alloc (Nat.le_refl _) _).trans (hb2.mono (by simp))
       have HOWN := Lib.hid hown
       have HB2 := Lib.hid hb12
       clear hown hb2 hb12))
  have hown := HOWN.out
  rw [dateS_num] at hown
  obtain ⟨gn, cap, rfl⟩ := hown.pos (by omega)
  have n0 : w2.cell? ⟨gn, 0, none⟩ = some (.int .i64 2020) := hown.cell (j := 0) rfl
  have n1 : w2.cell? ⟨gn, 1, none⟩ = some (.int .i64 1) := hown.cell (j := 1) rfl
  have n2 : w2.cell? ⟨gn, 2, none⟩ = some (.int .i64 1) := hown.cell (j := 2) rfl
  have n3 : w2.cell? ⟨gn, 3, none⟩ = some (.int .i64 0) := hown.cell (j := 3) rfl
  have n4 : w2.cell? ⟨gn, 4, none⟩ = some (.int .i64 0) := hown.cell (j := 4) rfl
  have n5 : w2.cell? ⟨gn, 5, none⟩ = some (.int .i64 0) := hown.cell (j := 5) rfl
  have n6 : w2.cell? ⟨gn, 6, none⟩ = some (.int .i64 0) := hown.cell (j := 6) rfl
  have hs2 := HB2.out.size
  have q0 : w2.cell? ⟨w.heap.size, 0, none⟩ = some (.int .i64 0) := (HB2.out.cell (p := ⟨w.heap.size, 0, none⟩) (by have := HSZ1.out; show w.heap.size < _; omega)).trans t0
  have q1 : w2.cell? ⟨w.heap.size, 1, none⟩ = some (.int .i64 0) := (HB2.out.cell (p := ⟨w.heap.size, 1, none⟩) (by have := HSZ1.out; show w.heap.size < _; omega)).trans t1
  have q2 : w2.cell? ⟨w.heap.size, 2, none⟩ = some (.int .i64 0) := (HB2.out.cell (p := ⟨w.heap.size, 2, none⟩) (by have := HSZ1.out; show w.heap.size < _; omega)).trans t2
  have TZ := Lib.hid tz
  clear t0 t1 t2 tz hown
  refine wp_region_still_lit (by kernel_rfl) (by kernel_rfl) ?_
  repeat still_step
  still_call (zzDays_one _)
  repeat still_step
  refine wpStill_nil ?_
  go_upto_region 12 with (fail)
  obtain ⟨wa, hwa⟩ : ∃ wa : World, wa = { heap := w2.heap, tape := w2.tape, drawn := w2.drawn + 1, os := w2.os, output := w2.output } := ⟨_, rfl⟩
  rw [← hwa]
  have hb2a : Below w2.heap.size w2 wa := by rw [hwa]; exact (Below.refl _ _).drew
  have HB2A := Lib.hid hb2a
  have m0 : wa.cell? ⟨gn, 0, none⟩ = some (.int .i64 2020) := by rw [hwa]; exact n0
  have m1 : wa.cell? ⟨gn, 1, none⟩ = some (.int .i64 1) := by rw [hwa]; exact n1
  have m2 : wa.cell? ⟨gn, 2, none⟩ = some (.int .i64 1) := by rw [hwa]; exact n2
  have m3 : wa.cell? ⟨gn, 3, none⟩ = some (.int .i64 0) := by rw [hwa]; exact n3
  have m4 : wa.cell? ⟨gn, 4, none⟩ = some (.int .i64 0) := by rw [hwa]; exact n4
  have m5 : wa.cell? ⟨gn, 5, none⟩ = some (.int .i64 0) := by rw [hwa]; exact n5
  have m6 : wa.cell? ⟨gn, 6, none⟩ = some (.int .i64 0) := by rw [hwa]; exact n6
  clear n0 n1 n2 n3 n4 n5 n6 hwa hb2a
  have z2 : ∀ k, w2.frozen? ⟨w.heap.size, k, none⟩ = false := fun k => by rw [World.frozen?_of_block (w := w1) (a := ⟨w.heap.size, k, none⟩) (HB2.out.block w.heap.size (by have := HSZ1.out; omega))]; exact TZ.out k
  have hw2s : w.heap.size < w2.heap.size := by have := HSZ1.out; omega
  have Q0 := Lib.hid q0
  have Q1 := Lib.hid q1
  have Q2 := Lib.hid q2
  have Z2 := Lib.hid z2
  clear q0 q1 q2 z2
  refine wp_region_still_tail 25 (by kernel_rfl) (by kernel_rfl) ?_
  simp only [List.take_succ_cons, List.take_zero, List.drop_succ_cons, List.drop_zero]
  repeat still_step
  refine wpStill_nil ?_
  obtain ⟨wd, hwd⟩ : ∃ wd : World, wd = { heap := wa.heap, tape := wa.tape, drawn := wa.drawn + 1, os := wa.os, output := wa.output } := ⟨_, rfl⟩
  rw [← hwd]
  have hb2d : Below w2.heap.size w2 wd := by rw [hwd]; exact HB2A.out.drew
  have HB2D := Lib.hid hb2d
  clear hwd hb2d m0 m1 m2 m3 m4 m5 m6
  go_wp2_with (first
    | (go_at_call 130
       refine (Date_any _ _ _ _ _ _ _ _ _).mono ?_
       rintro e w3 ⟨⟨a, b, c, rfl⟩, hb3⟩
       have hb23 : Below w2.heap.size w2 w3 := HB2D.out.trans (hb3.mono HB2D.out.size)
       have r0 : w3.cell? ⟨w.heap.size, 0, none⟩ = some (.int .i64 0) := (hb23.cell (p := ⟨w.heap.size, 0, none⟩) hw2s).trans Q0.out
       have r1 : w3.cell? ⟨w.heap.size, 1, none⟩ = some (.int .i64 0) := (hb23.cell (p := ⟨w.heap.size, 1, none⟩) hw2s).trans Q1.out
       have r2 : w3.cell? ⟨w.heap.size, 2, none⟩ = some (.int .i64 0) := (hb23.cell (p := ⟨w.heap.size, 2, none⟩) hw2s).trans Q2.out
       have rz : ∀ k, w3.frozen? ⟨w.heap.size, k, none⟩ = false := fun k => (World.frozen?_of_block (w := w2) (a := ⟨w.heap.size, k, none⟩) (hb23.block w.heap.size hw2s)).trans (Z2.out k)
       have HB23 := Lib.hid hb23
       clear hb3 hb23))
  obtain ⟨e0, e1, e2⟩ := set3b (.int .i64 a) (.int .i64 b) (.int .i64 c) r0 r1 r2
  refine bodyPost_ret (v := .tuple #[.agg #[.int .i64 a, .int .i64 b, .int .i64 c], .nilIface]) (by simp [results, Tryz.results106, go_sem, e0, e1, e2]) rfl ?_
  exact ⟨⟨_, _, _, rfl⟩, (((((HB1.out.trans (HB2.out.mono (by have := HSZ1.out; omega))).trans (HB23.out.mono (by omega))).setCell (Nat.le_refl _) _).setCell (Nat.le_refl _) _).setCell (Nat.le_refl _) _)⟩

end Go.Proofs.YtfppgplboomdbaaGreatDoor
