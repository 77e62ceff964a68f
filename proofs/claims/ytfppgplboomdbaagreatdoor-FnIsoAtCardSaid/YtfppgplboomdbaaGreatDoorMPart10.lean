/- Part of the proofs of laws.FnIsoTree and laws.FnIsoAt: lemmas and contracts of functions that the two laws reach, each under the hypotheses that its own statement names. -/
import Derived.Test.YtfppgplboomdbaaGreatDoorMPart00
import Derived.Test.YtfppgplboomdbaaGreatDoorMC2
import Derived.Test.YtfppgplboomdbaaGreatDoorMPart08
import Derived.Deep.Cut
namespace Go.Proofs.YtfppgplboomdbaaGreatDoor
open Go.RowKit

def strV (l : Bs) : Value := .string ⟨l.toArray⟩
theorem Tryz.i9 : (Tryz.prog.info? 9).map (fun i => (i.zero, i.size, i.bytes)) = some (some (.string ⟨#[]⟩), 1, 16) := by kernel_rfl
theorem els_first {l : Bs} {i : Nat} (h : l[i]? = some 47) (hn : ∀ j, j < i → l[j]? ≠ some 47) : Lib.Pa.els l = l.take i :: Lib.Pa.els (l.drop (i + 1)) := by
  obtain ⟨hi, e⟩ := List.getElem?_eq_some_iff.1 h
  have hl : l = l.take i ++ 47 :: l.drop (i + 1) := by rw [← e, ← List.drop_eq_getElem_cons hi, List.take_append_drop]
  have hm : 47 ∉ l.take i := fun hm => by
    obtain ⟨j, hj, e2⟩ := List.getElem_of_mem hm
    have hj2 : j < i := by rw [List.length_take] at hj; omega
    refine hn j hj2 ?_
    have := List.getElem?_eq_getElem hj
    rw [List.getElem?_take, if_pos hj2, e2] at this
    exact this
  conv => lhs; rw [hl]
  exact Lib.Pa.els_elem (l.take i) (47 :: l.drop (i + 1)) hm (.inr rfl)
theorem els_last {l : Bs} (h : ∀ j : Nat, l[j]? ≠ some 47) : Lib.Pa.els l = [l] := by
  have := Lib.Pa.els_elem l [] (fun hm => by obtain ⟨j, hj⟩ := List.getElem?_of_mem hm; exact h j hj) (.inl rfl)
  rw [List.append_nil] at this
  exact this
theorem els_len (l : Bs) : (Lib.Pa.els l).length ≤ l.length + 1 := by
  induction l with
  | nil => simp [Lib.Pa.els]
  | cons c t ih =>
    unfold Lib.Pa.els
    split
    · simp; exact ih
    · split
      · rename_i h; rw [h] at ih; simp at ih ⊢; omega
      · simp

set_option maxHeartbeats 4000000 in
set_option maxRecDepth 100000 in
theorem zzSplit_any (s : ByteArray) (w : World) (hs : s.size ≤ 1000000) :
    Calls Tryz.prog 150 #[.string s, .string ⟨#[47]⟩] w fun e w' => (∃ v, e = .returned v ∧ OwnS w' w.heap.size 1 v (Lib.Pa.els s.data.toList).length ((Lib.Pa.els s.data.toList).map strV)) ∧ Below w.heap.size w w' := by
  obtain ⟨i9, hi, hz0, hz1, hz2⟩ := info_parts Tryz.i9
  go_enter Tryz.func150, Tryz.ntmps150
  go_wp2
  go_loopw [0, 5, 8] (fun sv ov _ wr => ∃ (t : ByteArray) (n : Nat) (xs : List Bs) (ad : Option Addr) (cap : Nat), sv = .string t ∧ t.size ≤ s.size ∧ ov = .slice ad n cap ∧ xs.length = n ∧ OwnS wr w.heap.size 1 (.slice ad n cap) n (xs.map strV) ∧ Lib.Pa.els s.data.toList = xs ++ Lib.Pa.els t.data.toList ∧ Below w.heap.size w wr) (fun sv _ _ _ => match sv with | .string t => t.size | _ => 0)
  case atStart => exact ⟨s, 0, [], none, 0, rfl, Nat.le_refl _, rfl, rfl, OwnS.nil _ _ _, rfl, Below.refl _ _⟩
  case round =>
    obtain ⟨t, n, xs, ad, cap, rfl, hts, rfl, hxl, hown, hels, hbel⟩ := hrel
    obtain ⟨w0, rfl⟩ : ∃ w0 : World, w0 = wr := ⟨_, rfl⟩
    have hsz := hbel.size
    have HOWN := Lib.hid hown
    have HELS := Lib.hid hels
    have HBEL := Lib.hid hbel
    have HXL := Lib.hid hxl
    have hnl : n + 1 ≤ s.size + 2 := by
      have h1 := els_len s.data.toList
      rw [hels, List.length_append] at h1
      have h2 : s.data.toList.length = s.size := rfl
      omega
    clear hown hels hbel hxl
    go_upto_region 14 with (first
      | (go_at_call 154
         refine (zzIndex_any t 47 w0 (by omega)).mono ?_
         rintro e w2 ⟨⟨r, rfl, hidx⟩, rfl⟩
         have HIDX := Lib.hid hidx
         clear hidx))
    rcases HIDX.out with ⟨rfl, hno⟩ | ⟨i, rfl, hc, hno⟩
    · have HNO := Lib.hid hno
      clear hno
      go_wp2_with (first
        | (refine wpList_append_ownS' rfl (.tmp 42) (.tmp 44) 46 rfl w.heap.size 9 i9 (.string ⟨#[]⟩) 1 16 Tryz.underlying46 hi hz0 hz1 hz2 rfl (by decide) (.slice ad n cap) n _ rfl (HOWN.out.alloc _) ⟨w2.heap.size, 0, none⟩ 1 1 [.string t] rfl rfl (row_at _ [_] 9) (by intro u hu; simp at hu; subst hu; rfl) (by omega) (by unfold maxLen; omega) (by omega) (by simp; omega) ?_
           intro v5 w5 hA
           have HA := Lib.hid hA
           clear hA))
      go_ret
      refine ⟨⟨v5, rfl, ?_⟩, (HBEL.out.alloc hsz _).trans HA.out.below⟩
      rw [HELS.out, els_last HNO.out]
      have hown := HA.out.own
      rw [List.map_append, List.length_append, HXL.out]
      exact hown
    · have HNO := Lib.hid hno
      have HC := Lib.hid hc
      have hil : i < t.size := (List.getElem?_eq_some_iff.1 hc).1
      clear hno hc
      go_wp2_with (first
        | (refine wpList_append_ownS' rfl (.tmp 46) (.tmp 50) 46 rfl w.heap.size 9 i9 (.string ⟨#[]⟩) 1 16 Tryz.underlying46 hi hz0 hz1 hz2 rfl (by decide) (.slice ad n cap) n _ rfl (HOWN.out.alloc _) ⟨w2.heap.size, 0, none⟩ 1 1 [.string (t.extract 0 i)] rfl rfl (row_at _ [_] 9) (by intro u hu; simp at hu; subst hu; rfl) (by omega) (by unfold maxLen; omega) (by omega) (by simp; omega) ?_
           intro v5 w5 hA
           have HA := Lib.hid hA
           clear hA))
      obtain ⟨ad5, cap5, e5⟩ := HA.out.own.slice
      have hts2 : (t.extract (i + 1) t.size).size = t.size - (i + 1) := by simp
      have hown := HA.out.own
      rw [e5] at hown
      refine ⟨⟨t.extract (i + 1) t.size, n + 1, xs ++ [t.data.toList.take i], ad5, cap5, rfl, by omega, e5, by rw [List.length_append, HXL.out]; rfl, ?_, ?_, (HBEL.out.alloc hsz _).trans HA.out.below⟩, ?_⟩
      · rw [List.map_append]
        have e6 : (t.data.toList.take i) = (t.extract 0 i).data.toList := by rw [Lib.extract_data]; simp
        rw [e6]
        exact hown
      · rw [HELS.out, els_first HC.out HNO.out, List.append_assoc]
        have ed : (t.extract (i + 1) t.size).data.toList = t.data.toList.drop (i + 1) := by
          rw [Lib.extract_data]
          exact List.take_of_length_le (by rw [List.length_drop]; exact Nat.le_refl _)
        rw [ed]
        rfl
      · show (t.extract (i + 1) t.size).size < t.size
        omega

end Go.Proofs.YtfppgplboomdbaaGreatDoor

namespace Go.Proofs.YtfppgplboomdbaaGreatDoor
open Go.RowKit

theorem els_ne2 (l : Bs) : Lib.Pa.els l ≠ [] := by
  cases l with
  | nil => simp [Lib.Pa.els]
  | cons c t =>
    unfold Lib.Pa.els
    split
    · simp
    · split <;> simp
/-- What parts has made behind i places, the present part beginning at a. -/
def PartsI (L : Bs) (xs : List Bs) (a i : Nat) : Prop := (i ≤ L.length ∧ a ≤ i ∧ Lib.Pa.els L = xs ++ Lib.Pa.els (L.drop a) ∧ ∀ j, a ≤ j → j < i → L[j]? ≠ some 47) ∨ (i = L.length + 1 ∧ Lib.Pa.els L = xs)
theorem PartsI.start (L : Bs) : PartsI L [] 0 0 := .inl ⟨Nat.zero_le _, Nat.le_refl _, by simp, fun j h1 h2 => by omega⟩
theorem PartsI.at_le {L : Bs} {xs : List Bs} {a i : Nat} (h : PartsI L xs a i) (hi : i ≤ L.length) : a ≤ i := by
  rcases h with ⟨_, h, _⟩ | ⟨h, _⟩
  · exact h
  · omega
theorem PartsI.le {L : Bs} {xs : List Bs} {a i : Nat} (h : PartsI L xs a i) : i ≤ L.length + 1 := by
  rcases h with ⟨h, _⟩ | ⟨h, _⟩ <;> omega
theorem PartsI.len {L : Bs} {xs : List Bs} {a i : Nat} (h : PartsI L xs a i) (hi : i ≤ L.length) : xs.length ≤ L.length := by
  have h1 := els_len L
  rcases h with ⟨_, _, h, _⟩ | ⟨h, _⟩
  · rw [h, List.length_append] at h1
    have : Lib.Pa.els (L.drop a) ≠ [] := els_ne2 _
    have := List.length_pos_iff.2 this
    omega
  · omega
theorem PartsI.skip {L : Bs} {xs : List Bs} {a i : Nat} (h : PartsI L xs a i) (hi : i < L.length) (hc : L[i]? ≠ some 47) : PartsI L xs a (i + 1) := by
  rcases h with ⟨h1, h2, h3, h4⟩ | ⟨h, _⟩
  · refine .inl ⟨hi, by omega, h3, fun j hj1 hj2 => ?_⟩
    by_cases e : j = i
    · subst e; exact hc
    · exact h4 j hj1 (by omega)
  · omega
theorem PartsI.cut {L : Bs} {xs : List Bs} {a i : Nat} (h : PartsI L xs a i) (hc : L[i]? = some 47) : PartsI L (xs ++ [(L.drop a).take (i - a)]) (i + 1) (i + 1) := by
  have hi := (List.getElem?_eq_some_iff.1 hc).1
  rcases h with ⟨h1, h2, h3, h4⟩ | ⟨h, _⟩
  · refine .inl ⟨hi, Nat.le_refl _, ?_, fun j hj1 hj2 => by omega⟩
    have e := els_first (l := L.drop a) (i := i - a) (by rw [List.getElem?_drop]; rw [show a + (i - a) = i by omega]; exact hc) (fun j hj => by
      rw [List.getElem?_drop]; exact h4 (a + j) (by omega) (by omega))
    rw [h3, e, List.drop_drop, show a + (i - a + 1) = i + 1 by omega, List.append_assoc]
    rfl
  · omega
theorem PartsI.last {L : Bs} {xs : List Bs} {a i : Nat} (h : PartsI L xs a i) (hi : i = L.length) : PartsI L (xs ++ [(L.drop a).take (i - a)]) (i + 1) (i + 1) := by
  subst hi
  rcases h with ⟨h1, h2, h3, h4⟩ | ⟨h, _⟩
  · refine .inr ⟨rfl, ?_⟩
    rw [h3, els_last (l := L.drop a) (fun j => by
      rw [List.getElem?_drop]
      by_cases hj : a + j < L.length
      · exact h4 _ (by omega) hj
      · rw [List.getElem?_eq_none (by omega)]; simp)]
    rw [List.take_of_length_le (by rw [List.length_drop]; exact Nat.le_refl _)]
  · omega
theorem PartsI.fin {L : Bs} {xs : List Bs} {a i : Nat} (h : PartsI L xs a i) (hi : ¬ i ≤ L.length) : Lib.Pa.els L = xs := by
  rcases h with ⟨h1, _⟩ | ⟨_, h⟩
  · exact absurd h1 hi
  · exact h
theorem extract_part (s : ByteArray) (a i : Nat) : (s.extract a i).data.toList = (s.data.toList.drop a).take (i - a) := Lib.extract_data _ _ _

end Go.Proofs.YtfppgplboomdbaaGreatDoor
