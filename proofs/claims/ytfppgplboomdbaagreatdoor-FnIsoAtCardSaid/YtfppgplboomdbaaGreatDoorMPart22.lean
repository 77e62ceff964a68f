/- Part of the proofs of laws.FnIsoTree and laws.FnIsoAt: lemmas and contracts of functions that the two laws reach, each under the hypotheses that its own statement names. -/
import Derived.Test.YtfppgplboomdbaaGreatDoorMPart10
import Derived.Test.YtfppgplboomdbaaGreatDoorMC2
import Derived.Test.YtfppgplboomdbaaGreatDoorMPart08
namespace Go.Proofs.YtfppgplboomdbaaGreatDoor
open Go.RowKit

theorem byte_eql {s : ByteArray} {i : Nat} (h : i < s.size) (c : UInt8) {k : Int} (hk : (c.toNat : Int) = k) : (((s[i]'h).toNat : Int) == k) = decide (s.data.toList[i]? = some c) := by
  subst hk
  have h1 := Lib.Pa.beq_lit (s[i]'h) c
  have h2 := Lib.Pa.at_eq s i h
  rw [h1, h2]
  rw [Bool.eq_iff_iff]
  simp
theorem len_toList (s : ByteArray) : s.data.toList.length = s.size := rfl
set_option maxHeartbeats 4000000 in
set_option maxRecDepth 100000 in
theorem parts_any (s : ByteArray) (w : World) (hs : s.size ≤ 2147483647) :
    Calls Tryz.prog 16 #[.string s] w fun e w' => (∃ v, e = .returned v ∧ OwnS w' w.heap.size 1 v (Lib.Pa.els s.data.toList).length ((Lib.Pa.els s.data.toList).map strV)) ∧ Below w.heap.size w w' := by
  obtain ⟨i9, hi, hz0, hz1, hz2⟩ := info_parts Tryz.i9
  go_enter Tryz.func16, Tryz.ntmps16
  go_wp2
  go_loopw [3, 4, 5] (fun ov av iv wr => ∃ (a i n : Nat) (xs : List Bs) (ad : Option Addr) (cap : Nat), ov = .slice ad n cap ∧ av = .int .i64 a ∧ iv = .int .i64 i ∧ xs.length = n ∧ OwnS wr w.heap.size 1 (.slice ad n cap) n (xs.map strV) ∧ PartsI s.data.toList xs a i ∧ a ≤ s.size + 1 ∧ i ≤ s.size + 1 ∧ Below w.heap.size w wr) (fun _ _ iv _ => s.size + 1 - (intOf iv).toNat)
  case atStart => exact ⟨0, 0, 0, [], none, 0, rfl, rfl, rfl, rfl, OwnS.nil _ _ _, PartsI.start _, by omega, by omega, Below.refl _ _⟩
  case round =>
    obtain ⟨a, i, n, xs, ad, cap, rfl, rfl, rfl, hxl, hown, hpi, ha, hi2, hbel⟩ := hrel
    obtain ⟨w0, rfl⟩ : ∃ w0 : World, w0 = wr := ⟨_, rfl⟩
    have hsz := hbel.size
    have HOWN := Lib.hid hown
    have HPI := Lib.hid hpi
    have HBEL := Lib.hid hbel
    have HXL := Lib.hid hxl
    clear hown hpi hbel hxl
    by_cases hle : i ≤ s.size
    · have hai := HPI.out.at_le (by rw [len_toList]; exact hle)
      have hnl : n + 1 ≤ s.size + 1 := by
        have h1 := HPI.out.len (by rw [len_toList]; exact hle)
        rw [HXL.out, len_toList] at h1; omega
      have hpart := extract_part s a i
      have HPART := Lib.hid hpart
      clear hpart
      by_cases hlast : i = s.size
      · obtain ⟨z, hz⟩ : ∃ z, z = s.size := ⟨_, rfl⟩
        subst hlast
        go_wp2_with (first
          | (refine wpList_append_ownS' rfl (.tmp 22) (.tmp 27) 46 rfl w.heap.size 9 i9 (.string ⟨#[]⟩) 1 16 Tryz.underlying46 hi hz0 hz1 hz2 rfl (by decide) (.slice ad n cap) n _ rfl (HOWN.out.alloc _) ⟨w0.heap.size, 0, none⟩ 1 1 [.string (s.extract a s.size)] rfl rfl (row_at _ [_] 9) (by intro u hu; simp at hu; subst hu; rfl) (by omega) (by unfold maxLen; omega) (by omega) (by simp; omega) ?_
             intro v5 w5 hA
             have HA := Lib.hid hA
             clear hA))
        obtain ⟨ad5, cap5, e5⟩ := HA.out.own.slice
        have hown := HA.out.own
        rw [e5] at hown
        have hp := HPI.out.last (len_toList s).symm
        rw [← HPART.out] at hp
        refine ⟨⟨s.size + 1, s.size + 1, n + 1, xs ++ [(s.extract a s.size).data.toList], ad5, cap5, e5, by simp, by simp, by rw [List.length_append, HXL.out]; rfl, ?_, hp, Nat.le_refl _, Nat.le_refl _, (HBEL.out.alloc hsz _).trans HA.out.below⟩, by simp [intOf] <;> omega⟩
        rw [List.map_append]
        exact hown
      · have hlt : i < s.size := by omega
        have hltz : (i : Int) < (s.size : Int) := by omega
        by_cases hc : s.data.toList[i]? = some 47
        · have hcb : (((s[i]'hlt).toNat : Int) == 47) = true := (byte_eql hlt 47 (k := 47) rfl).trans (by simpa using hc)
          have HC := Lib.hid hc
          clear hc
          go_wp2_with (first
            | (refine wpList_append_ownS' rfl (.tmp 22) (.tmp 27) 46 rfl w.heap.size 9 i9 (.string ⟨#[]⟩) 1 16 Tryz.underlying46 hi hz0 hz1 hz2 rfl (by decide) (.slice ad n cap) n _ rfl (HOWN.out.alloc _) ⟨w0.heap.size, 0, none⟩ 1 1 [.string (s.extract a i)] rfl rfl (row_at _ [_] 9) (by intro u hu; simp at hu; subst hu; rfl) (by omega) (by unfold maxLen; omega) (by omega) (by simp; omega) ?_
               intro v5 w5 hA
               have HA := Lib.hid hA
               clear hA))
          obtain ⟨ad5, cap5, e5⟩ := HA.out.own.slice
          have hown := HA.out.own
          rw [e5] at hown
          have hp := HPI.out.cut HC.out
          rw [← HPART.out] at hp
          refine ⟨⟨i + 1, i + 1, n + 1, xs ++ [(s.extract a i).data.toList], ad5, cap5, e5, by simp, by simp, by rw [List.length_append, HXL.out]; rfl, ?_, hp, by omega, by omega, (HBEL.out.alloc hsz _).trans HA.out.below⟩, by simp [intOf] <;> omega⟩
          rw [List.map_append]
          exact hown
        · have hcb : (((s[i]'hlt).toNat : Int) == 47) = false := (byte_eql hlt 47 (k := 47) rfl).trans (by simpa using hc)
          have HC := Lib.hid hc
          clear hc
          go_wp2
          exact ⟨⟨a, i + 1, n, xs, ad, cap, rfl, rfl, by simp, HXL.out, HOWN.out, HPI.out.skip (by rw [len_toList]; exact hlt) HC.out, ha, by omega, HBEL.out⟩, by simp [intOf] <;> omega⟩
    · have hi3 : i = s.size + 1 := by omega
      go_wp2
      go_ret
      have he := HPI.out.fin (by rw [len_toList]; exact hle)
      refine ⟨⟨_, rfl, ?_⟩, HBEL.out⟩
      rw [he, HXL.out]
      exact HOWN.out

end Go.Proofs.YtfppgplboomdbaaGreatDoor

namespace Go.Proofs.YtfppgplboomdbaaGreatDoor
open Go.RowKit

theorem okC_of {c : UInt8} {x : Int} (h : (c.toNat : Int) = x) (hx : (65 ≤ x ∧ x ≤ 90) ∨ (48 ≤ x ∧ x ≤ 57) ∨ x = 95) : okC c := by
  unfold okC; omega
theorem byte_of {c d : UInt8} (h : (c.toNat : Int) = (d.toNat : Int)) : c = d := UInt8.toNat_inj.1 (by omega)
def PnPost (s : ByteArray) (dir : Bool) (e : Ending) : Prop := ∃ b, e = .returned (.bool b) ∧ (b = true → PName s.data.toList dir)
set_option maxHeartbeats 4000000 in
set_option maxRecDepth 100000 in
theorem plainName_any (s : ByteArray) (dir : Bool) (w : World) (hs : s.size ≤ 2147483647) :
    Calls Tryz.prog 17 #[.string s, .bool dir] w fun e w' => PnPost s dir e ∧ w' = w := by
  go_enter Tryz.func17, Tryz.ntmps17
  go_wp2
  go_loopw [5, 10] (fun pv iv wr => ∃ (i : Nat) (p : Int), pv = .int .i64 p ∧ iv = .int .i64 i ∧ i ≤ s.size ∧ -1 ≤ p ∧ p ≤ i ∧ PnI s.data.toList dir i p ∧ wr = w) (fun _ iv _ => s.size - (intOf iv).toNat)
  case atStart => exact ⟨0, -1, rfl, rfl, Nat.zero_le _, by omega, by omega, PnI.start _ _, rfl⟩
  case round =>
    obtain ⟨i, p, rfl, rfl, hi, hp0, hp1, hpn, rfl⟩ := hrel
    have HPN := Lib.hid hpn
    clear hpn
    by_cases hlt : i < s.size
    · obtain ⟨x, hx⟩ : ∃ x : Int, ((s[i]'hlt).toNat : Int) = x := ⟨_, rfl⟩
      have HX := Lib.hid hx
      go_wp2_with (fail)
      all_goals (first
        | (go_ret; exact ⟨⟨false, rfl, fun h => by cases h⟩, rfl⟩)
        | (refine ⟨⟨i + 1, p, rfl, by simp, by omega, by omega, by omega, HPN.out.chr (c := s[i]'hlt) (Lib.Pa.at_eq s i hlt) (okC_of HX.out ?_), trivial⟩, by simp [intOf] <;> omega⟩
           first
             | omega
             | (rename_i h; simp at h; omega))
        | (rename_i h1 h2 h3 h4
           refine ⟨⟨i + 1, i, rfl, by simp, by omega, by omega, by omega, HPN.out.dot ?_ h2 h3 (by simpa using h4), trivial⟩, by simp [intOf] <;> omega⟩
           rw [Lib.Pa.at_eq s i hlt, byte_of (c := s[i]'hlt) (d := 46) (HX.out.trans h1)]))
    · have hie : i = s.data.toList.length := by rw [len_toList]; omega
      have hf := HPN.out
      rw [hie] at hf
      have HFN := Lib.hid hf
      have hll := len_toList s
      clear hf hie
      go_wp2_with (fail)
      all_goals (
        go_ret
        refine ⟨⟨_, rfl, fun h => ?_⟩, rfl⟩
        first
          | (cases h; done)
          | (have h2 := of_decide_eq_true h
             exact HFN.out.fin (fun _ => by omega) (fun _ => by omega)))

end Go.Proofs.YtfppgplboomdbaaGreatDoor

namespace Go.Proofs.YtfppgplboomdbaaGreatDoor
open Go.RowKit

/-- A file's texts are no longer than any text may be. -/
def FBig (f : FileD) : Prop := f.path.size ≤ 9223372036854775807 ∧ f.data.size ≤ 9223372036854775807 ∧ f.target.size ≤ 9223372036854775807
def FSm (f : FileD) : Prop := f.path.size ≤ 2147483647 ∧ f.data.size ≤ 2147483647 ∧ f.target.size ≤ 2147483647
def Fits4Post (f : FileD) (w : World) (e : Ending) (w' : World) : Prop := ∃ b, e = .returned (.bool b) ∧ (b = true → FSm f) ∧ Below w.heap.size w w'
set_option maxRecDepth 100000 in
theorem fits4_any (f : FileD) (w : World) (hb : FBig f) : Calls Tryz.prog 15 #[.agg (fcells f).toArray] w fun e w' => Fits4Post f w e w' := by
  obtain ⟨h1, h2, h3⟩ := hb
  show Calls Tryz.prog 15 #[.agg #[.string f.path, .bool f.dir, .string f.data, .string f.target, .int .u32 f.perm, .int .u32 f.uid, .int .u32 f.gid, .int .i64 f.time]] w _
  go_enter Tryz.func15, Tryz.ntmps15
  go_wp2
  all_goals (
    go_ret
    first
      | exact ⟨false, rfl, (fun h => by cases h), (Below.refl _ _).alloc (Nat.le_refl _) _⟩
      | exact ⟨true, rfl, fun _ => ⟨by omega, by omega, by omega⟩, (Below.refl _ _).alloc (Nat.le_refl _) _⟩)
def Fits3Post (fs : List FileD) (w : World) (e : Ending) (w' : World) : Prop := ∃ b, e = .returned (.bool b) ∧ (b = true → fs.length ≤ 2147483647 ∧ ∀ (k : Nat) (f : FileD), fs[k]? = some f → FSm f) ∧ Below w.heap.size w w'
set_option maxHeartbeats 4000000 in
set_option maxRecDepth 100000 in
theorem fits3_any (p : Option Addr) (c : Nat) (fs : List FileD) (w : World) (hfs : FilesAt w w.heap.size p fs) (hbig : ∀ (k : Nat) (f : FileD), fs[k]? = some f → FBig f) (hn : fs.length ≤ 9223372036854775807) :
    Calls Tryz.prog 5 #[.slice p fs.length c] w fun e w' => Fits3Post fs w e w' := by
  have HF := Lib.hid hfs
  have HP := Lib.hid hbig
  clear hfs hbig
  generalize hN : fs.length = N at hn ⊢
  have HN := Lib.hid hN; clear hN
  go_enter Tryz.func5, Tryz.ntmps5
  by_cases hbn : N ≤ 2147483647
  · go_wp2
    go_loopw [10] (fun iv wr => ∃ k : Nat, k ≤ N ∧ iv = .int .i64 k ∧ (∀ (j : Nat) (f : FileD), j < k → fs[j]? = some f → FSm f) ∧ Below w.heap.size w wr) (fun iv _ => N - (intOf iv).toNat)
    case atStart => exact ⟨0, Nat.zero_le _, rfl, fun j f h => by omega, Below.refl _ _⟩
    case round =>
      obtain ⟨k, hk, rfl, hsm, hbel⟩ := hrel
      obtain ⟨w0, rfl⟩ : ∃ w0 : World, w0 = wr := ⟨_, rfl⟩
      have HSM := Lib.hid hsm
      have HB := Lib.hid hbel
      have hsz := hbel.size
      by_cases hlt : k < N
      · obtain ⟨gf, of, rfl, hgf, hfc⟩ := HF.out (by rw [HN.out]; omega)
        obtain ⟨f, hf⟩ : ∃ f, fs[k]? = some f := ⟨fs[k]'(by rw [HN.out]; exact hlt), List.getElem?_eq_getElem _⟩
        have HFC := Lib.hid (rangeAt_below (hfc k f hf) hbel hgf)
        have Hf := Lib.hid hf
        clear hfc hf hbel hsm
        go_wp2_with (first
          | (refine wpList_load_mid rfl 38 (.tmp 12) rfl gf (of + k * 8) rfl (fcells f) _ HFC.out Tryz.underlying38 rfl rfl ?_)
          | (refine wpList_store_fresh rfl 38 (.tmp 4) (.tmp 13) rfl _ 38 (fcells f).toArray rfl rfl rfl rfl (fcells_one f) ?_
             intro w1 hF1
             have HF1 := Lib.hid hF1; clear hF1)
          | (refine wpList_load_mid rfl 38 (.tmp 4) rfl w0.heap.size 0 rfl (fcells f) _ HF1.out.range Tryz.underlying38 rfl rfl ?_)
          | (go_at_call 15
             refine (fits4_any f _ (HP.out k f Hf.out)).mono ?_
             rintro e w2 ⟨b, rfl, hb, hb2⟩
             have HBB := Lib.hid hb
             have HB2 := Lib.hid hb2
             clear hb hb2))
        · go_ret
          exact ⟨false, rfl, (fun h => by cases h), (HB.out.trans (HF1.out.below.mono hsz)).trans (HB2.out.mono (by rw [HF1.out.size]; omega))⟩
        · rename_i hbt
          refine ⟨⟨k + 1, hlt, by simp, fun j f2 hj h2 => ?_, (HB.out.trans (HF1.out.below.mono hsz)).trans (HB2.out.mono (by rw [HF1.out.size]; omega))⟩, by simp [intOf]; omega⟩
          by_cases e : j = k
          · subst e
            rw [Hf.out] at h2
            cases h2
            exact HBB.out (by simpa using hbt)
          · exact HSM.out j f2 (by omega) h2
      · go_wp2
        go_ret
        exact ⟨true, rfl, fun _ => ⟨by rw [HN.out]; exact hbn, fun j f h => HSM.out j f (by have := (List.getElem?_eq_some_iff.1 h).1; rw [HN.out] at this; omega) h⟩, HB.out⟩
  · go_wp2
    go_ret
    exact ⟨false, rfl, (fun h => by cases h), Below.refl _ _⟩

end Go.Proofs.YtfppgplboomdbaaGreatDoor
