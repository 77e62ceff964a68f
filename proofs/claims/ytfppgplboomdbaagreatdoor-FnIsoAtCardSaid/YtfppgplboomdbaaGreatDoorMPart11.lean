/- Part of the proofs of laws.FnIsoTree and laws.FnIsoAt: lemmas and contracts of functions that the two laws reach, each under the hypotheses that its own statement names. -/
import Derived.Test.YtfppgplboomdbaaGreatDoorMPart00
import Derived.Test.YtfppgplboomdbaaGreatDoorMPart02
import Derived.Test.YtfppgplboomdbaaGreatDoorMPart06
import Derived.Test.YtfppgplboomdbaaGreatDoorMPart10
namespace Go.Proofs.YtfppgplboomdbaaGreatDoor
open Go.RowKit

theorem Idx.none {l : Bs} {c : UInt8} {r : Int} (h : Idx l c r) (hn : c ∉ l) : r = -1 := by
  rcases h with ⟨h1, _⟩ | ⟨i, _, h1, _⟩
  · exact h1
  · exact absurd (List.mem_of_getElem? h1) hn
theorem zzIndex_none (s : ByteArray) (c : UInt8) (w : World) (hs : s.size ≤ 1000000) (hn : c ∉ s.data.toList) :
    Calls Tryz.prog 154 #[.string s, .string ⟨#[c]⟩] w fun e w' => e = .returned (.int .i64 (-1)) ∧ w' = w := by
  refine (zzIndex_any s c w hs).mono ?_
  rintro e w' ⟨⟨r, rfl, hi⟩, rfl⟩
  rw [hi.none hn]
  exact ⟨rfl, rfl⟩
theorem own_str {w : World} {B n : Nat} {v : Value} {l : Bs} (h : OwnS w B 1 v n (bcs l)) (hl : l.length = n) (h0 : 0 < n) : (convert 26 9 v).run Tryz.prog w = .ok (.string ⟨l.toArray⟩) w := by
  obtain ⟨_, ⟨rfl, rfl⟩ | ⟨g, cap, rfl, _, _, _, _, hx, _⟩⟩ := h
  · omega
  · refine bytes_str (g := g) (o := 0) ?_ hl cap
    intro j u hu
    rw [Nat.zero_add]; exact hx j u hu

set_option maxHeartbeats 1000000 in
set_option maxRecDepth 100000 in
theorem zzReplaceAll_none (s : ByteArray) (w : World) (hs : s.size ≤ 1000000) (h0 : 0 < s.size) (hn : 92 ∉ s.data.toList) :
    Calls Tryz.prog 153 #[.string s, .string ⟨#[92]⟩, .string ⟨#[47]⟩] w fun e w' => e = .returned (.string s) ∧ Below w.heap.size w w' := by
  obtain ⟨i5, hi, hz0, hz1, hz2⟩ := info_parts Tryz.info5
  have HN := Lib.hid hn
  clear hn
  go_enter Tryz.func153, Tryz.ntmps153
  go_wp2
  go_loopw [0, 7, 10] (fun sv ov _ wr => sv = .string s ∧ ov = .slice none 0 0 ∧ wr = w) (fun _ _ _ _ => 0)
  case atStart => exact ⟨rfl, rfl, rfl⟩
  case round =>
    obtain ⟨rfl, rfl, rfl⟩ := hrel
    go_wp2_with (first
      | (go_at_call 154
         refine (zzIndex_none s 92 wr hs HN.out).mono ?_
         rintro e w2 ⟨rfl, rfl⟩)
      | (refine wpList_append_str rfl (.tmp 50) (.tmp 51) 26 9 rfl w2.heap.size 5 i5 Tryz.underlying26 Tryz.underlying9 hi hz0 hz1 hz2 (.slice none 0 0) 0 [] rfl (OwnS.nil w2 w2.heap.size 1) s rfl s.size rfl h0 (by unfold maxLen; omega) (by omega) (Nat.le_refl _) ?_
         intro v5 w5 hA
         have hcv := own_str (l := s.data.toList) (n := s.size) (by simpa using hA.own) rfl h0
         have HB := Lib.hid hA.below
         clear hA))
    go_ret
    exact ⟨rfl, HB.out⟩
set_option maxHeartbeats 1000000 in
set_option maxRecDepth 100000 in
theorem universalizePath_none (s : ByteArray) (w : World) (hs : s.size ≤ 1000000) (h0 : 0 < s.size) (hn : 92 ∉ s.data.toList) :
    Calls Tryz.prog 149 #[.string s] w fun e w' => e = .returned (.string s) ∧ Below w.heap.size w w' := by
  go_enter Tryz.func149, Tryz.ntmps149
  go_wp2_with (go_at_call 153; refine (zzReplaceAll_none s w hs h0 hn).mono ?_; rintro e w2 ⟨rfl, hb⟩)
  go_ret
  exact ⟨rfl, hb⟩

end Go.Proofs.YtfppgplboomdbaaGreatDoor

namespace Go.Proofs.YtfppgplboomdbaaGreatDoor
open Go.RowKit

theorem own_emptyH (w : World) (B : Nat) (t : TypeId) (cs : List Value) (hB : B ≤ w.heap.size) (hn : cs.length ≤ maxLen) : OwnS (w.alloc (.cells cs.toArray t)) B 1 (.slice (some ⟨w.heap.size, 0, none⟩) 0 cs.length) 0 [] := by
  refine ⟨rfl, .inr ⟨w.heap.size, cs.length, rfl, hB, by simp, Nat.zero_le _, hn, fun j u hu => by simp at hu, fun j hj => ?_⟩⟩
  have h := there_alloc_new w cs.toArray t cs.length (by simp) j (by omega)
  rw [Nat.zero_add] at h
  exact h
theorem els_neD (l : Bs) : Lib.Pa.els l ≠ [] := by
  cases l with
  | nil => simp [Lib.Pa.els]
  | cons c t =>
    unfold Lib.Pa.els
    split
    · simp
    · split <;> simp
theorem mk46 (w : World) : (Instr.makeSlice 46 (.int .i64 0) (.int .i64 0)).run Tryz.prog w = .ok (.slice (some ⟨w.heap.size, 0, none⟩) 0 0) (w.alloc (.cells #[] 9)) := by kernel_rfl
set_option maxHeartbeats 4000000 in
set_option maxRecDepth 100000 in
/-- The parts of a path of plain letters. -/
theorem splitPath_any (s : ByteArray) (ps : List Bs) (w : World) (hs : s.size ≤ 1000000) (h0 : 0 < s.size) (hn : 92 ∉ s.data.toList) (hp : Lib.Pa.els s.data.toList = ps) (hne : ∀ e ∈ ps, e ≠ []) :
    Calls Tryz.prog 137 #[.string s] w fun e w' => (∃ v, e = .returned v ∧ OwnS w' w.heap.size 1 v ps.length (ps.map strV)) ∧ Below w.heap.size w w' := by
  obtain ⟨i9, hi, hz0, hz1, hz2⟩ := info_parts Tryz.i9
  have hpl : ps.length ≤ s.size + 1 := by have := els_len s.data.toList; rw [hp] at this; exact this
  have HN := Lib.hid hn
  have HP := Lib.hid hp
  have HNE := Lib.hid hne
  clear hn hp hne
  go_enter Tryz.func137, Tryz.ntmps137
  go_wp2_with (first
    | (go_at_call 149
       refine (universalizePath_none s w hs h0 HN.out).mono ?_
       rintro e w2 ⟨rfl, hb2⟩
       have HB2 := Lib.hid hb2
       clear hb2)
    | (go_at_call 150
       refine (zzSplit_any s _ hs).mono ?_
       rintro e w3 ⟨⟨v, rfl, hv⟩, hb3⟩
       rw [HP.out] at hv
       obtain ⟨g, cap, rfl, hgl, hcells⟩ : ∃ g cap, v = .slice (some ⟨g, 0, none⟩) ps.length cap ∧ g < w3.heap.size ∧ ∀ (j : Nat) u, (ps.map strV)[j]? = some u → w3.cell? ⟨g, j, none⟩ = some u := by
         obtain ⟨_, ⟨_, h0'⟩ | ⟨g, cap, e, _, h3, _, _, h4, _⟩⟩ := hv
         · exact absurd (List.length_eq_zero_iff.1 h0') (by rw [← HP.out]; exact els_neD _)
         · exact ⟨g, cap, e, h3, h4⟩
       have HC := Lib.hid hcells
       have hmk := mk46 w3
       have HB3 := Lib.hid hb3
       have hs2 := HB2.out.size
       have hs3 := hb3.size
       clear hv hb3 hcells))
  clear hmk
  go_loopw [5, 15] (fun ov iv wr => ∃ (k : Nat) (ad : Option Addr) (cp : Nat), iv = .int .i64 k ∧ k ≤ ps.length ∧ ov = .slice ad k cp ∧ OwnS wr w3.heap.size 1 (.slice ad k cp) k ((ps.take k).map strV) ∧ Below w3.heap.size w3 wr) (fun _ iv _ => ps.length - (intOf iv).toNat)
  case atStart => exact ⟨0, _, 0, rfl, Nat.zero_le _, rfl, own_emptyH w3 w3.heap.size 9 [] (Nat.le_refl _) (by simp), (Below.refl _ _).alloc (Nat.le_refl _) _⟩
  case round =>
    obtain ⟨k, ad, cp, rfl, hk, rfl, hown, hbel⟩ := hrel
    obtain ⟨w0, rfl⟩ : ∃ w0 : World, w0 = wr := ⟨_, rfl⟩
    have hsz := hbel.size
    by_cases hkl : k < ps.length
    · obtain ⟨x, hx⟩ : ∃ x, ps[k]? = some x := ⟨ps[k], List.getElem?_eq_getElem hkl⟩
      have hxn : x ≠ [] := HNE.out x (List.mem_of_getElem? hx)
      have hcell : w0.cell? ⟨g, k, none⟩ = some (strV x) := by
        rw [hbel.cell (p := ⟨g, k, none⟩) hgl]
        exact HC.out k _ (by rw [List.getElem?_map, hx]; rfl)
      have htk : (ps.take (k + 1)).map strV = (ps.take k).map strV ++ [strV x] := by rw [List.take_add_one, hx]; simp
      unfold strV at hcell
      have hXs : (⟨x.toArray⟩ : ByteArray).size = x.length := by simp [ByteArray.size]
      have hxl : 0 < x.length := List.length_pos_iff.2 hxn
      obtain ⟨X, hX⟩ : ∃ X : ByteArray, (⟨x.toArray⟩ : ByteArray) = X := ⟨_, rfl⟩
      rw [hX] at hcell hXs
      have hsx : strV x = .string X := by unfold strV; rw [hX]
      rw [hsx] at htk
      have HTK := Lib.hid htk
      have HOWN := Lib.hid hown
      have HBEL := Lib.hid hbel
      have HX := Lib.hid hX
      have hxe : (X.toList == []) = false := by
        have e0 : X.toList = x := by rw [← hX]; simp
        rw [e0]; simp [hxn]
      clear hown hbel htk hsx hx hX
      go_wp2_with (first
        | (refine wpList_append_ownS' rfl (.tmp 21) (.tmp 23) 46 rfl w3.heap.size 9 i9 (.string ⟨#[]⟩) 1 16 Tryz.underlying46 hi hz0 hz1 hz2 rfl (by decide) (.slice ad k cp) k _ rfl (HOWN.out.alloc _) ⟨w0.heap.size, 0, none⟩ 1 1 [.string X] rfl rfl (row_at _ [_] 9) (by intro u hu; simp at hu; subst hu; rfl) (by omega) (by unfold maxLen; omega) (by omega) (by simp; omega) ?_
           intro v5 w5 hA
           have HA := Lib.hid hA
           clear hA))
      obtain ⟨ad5, cap5, e5⟩ := HA.out.own.slice
      have hown := HA.out.own
      rw [e5, ← HTK.out] at hown
      exact ⟨⟨k + 1, ad5, cap5, by simp, by omega, e5, hown, (HBEL.out.alloc hsz _).trans HA.out.below⟩, by simp [intOf]; omega⟩
    · have hkk : k = ps.length := by omega
      have HOWN := Lib.hid hown
      have HBEL := Lib.hid hbel
      clear hown hbel
      go_wp2
      go_ret
      refine ⟨⟨_, rfl, ?_⟩, HB2.out.trans ((HB3.out.mono hs2).trans (HBEL.out.mono (by omega)))⟩
      have hown := HOWN.out
      rw [hkk, List.take_length] at hown
      rw [hkk]
      exact hown.mono (by omega)

end Go.Proofs.YtfppgplboomdbaaGreatDoor
