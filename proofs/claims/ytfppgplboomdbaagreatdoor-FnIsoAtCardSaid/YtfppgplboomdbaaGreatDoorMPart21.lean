/- Part of the proofs of laws.FnIsoTree and laws.FnIsoAt: lemmas and contracts of functions that the two laws reach, each under the hypotheses that its own statement names. -/
import Derived.Test.YtfppgplboomdbaaGreatDoorMPart20
import Derived.Test.YtfppgplboomdbaaGreatDoorMF4
namespace Go.Proofs.YtfppgplboomdbaaGreatDoor
open Go.RowKit

def fA : FileD := ⟨⟨#[65, 46, 84, 88, 84]⟩, false, ⟨#[120]⟩, ⟨#[]⟩, 0, 0, 0, 0⟩
theorem fA_name : PName ([65, 46, 84, 88, 84] : Bs) false := by
  refine ⟨by decide, by decide, fun c hc => ?_, by decide, by decide⟩
  simp only [List.mem_cons, List.not_mem_nil, or_false] at hc
  rcases hc with rfl | rfl | rfl | rfl | rfl
  · exact .inl (.inl (by decide))
  · exact .inr ⟨rfl, rfl⟩
  · exact .inl (.inl (by decide))
  · exact .inl (.inl (by decide))
  · exact .inl (.inl (by decide))
theorem one_get {α : Type} {a f : α} {k : Nat} (h : [a][k]? = some f) : k = 0 ∧ f = a := by
  cases k with
  | zero => simp at h; exact ⟨rfl, h.symm⟩
  | succ k => simp at h
theorem good_A : Good [fA] := by
  refine ⟨by decide, fun k f hf => ?_, fun j k f g hf hg _ => ?_, fun k f hf hd => ?_, fun k f hf => ?_, fun k f hf => ?_⟩
  · obtain ⟨_, rfl⟩ := one_get hf
    exact ⟨[], [65, 46, 84, 88, 84], by rw [List.nil_append, joinP_one]; rfl, (fun x hx => by cases hx), fA_name, by decide, .inl rfl⟩
  · rw [(one_get hf).1, (one_get hg).1]
  · obtain ⟨_, rfl⟩ := one_get hf
    cases hd
  · obtain ⟨_, rfl⟩ := one_get hf
    rfl
  · obtain ⟨_, rfl⟩ := one_get hf
    decide
theorem apart_A : Apart [fA] := fun j k f g hf hg hd _ _ => by
  obtain ⟨_, rfl⟩ := one_get hf
  cases hd
/-- The one leaf of the small image. -/
theorem leaf_A {nd : Nat → Nd} {ks : Nat → List Nat} {n P : Nat} {D vol : Bs} {ds : List Nat} {ls : List LeafD} (hn : NodesOf [fA] nd) (tr : Tr D nd ks n ds P vol) (hn2 : n = 2) (hl : Leaves nd (pre nd ks 7 0) ls) : ∃ l, ls = [l] ∧ l.data = ⟨#[120]⟩ := by
  subst hn2
  have h1 := pre_len tr.tree tr.good
  have h2 := hl.len
  rw [h1] at h2
  match ls, h2 with
  | [l], _ =>
    obtain ⟨k, hk⟩ : ∃ k, (pre nd ks 7 0)[0]? = some k := ⟨(pre nd ks 7 0)[0]'(by omega), List.getElem?_eq_getElem _⟩
    have h3 := hl.at_ 0 k l hk rfl
    have h4 := pre_range tr.tree 7 0 (by omega) k (List.mem_of_getElem? hk)
    have h5 : k = 1 := by omega
    subst h5
    obtain ⟨f, e1, e2, _⟩ := hn.node 0 (by decide)
    obtain ⟨_, rfl⟩ := one_get e1
    have h6 := h3.data (by rw [e2]; rfl)
    rw [e2] at h6
    exact ⟨l, rfl, h6.1⟩
def AwPost (w : World) (e : Ending) (w' : World) : Prop := e = .returned (.bool true) ∧ Below w.heap.size w w'
set_option maxHeartbeats 4000000 in
set_option maxRecDepth 100000 in
theorem awake_any (ea : Addr) (w : World) (heof : EofAt w ea) (htabs : Lib.Utf8Tabs 4 5 w) (h6 : 6 ≤ w.heap.size) : Calls Tryz.prog 8 #[] w fun e w' => AwPost w e w' := by
  have HE := Lib.hid heof
  have HT := Lib.hid htabs
  clear heof htabs
  have hfa : ∀ w1 : World, w1 = w.alloc (.cells (fcells fA).toArray 38) → FilesAt w1 w1.heap.size (some ⟨w.heap.size, 0, none⟩) [fA] := fun w1 e _ => by
    refine ⟨w.heap.size, 0, rfl, by rw [e]; simp, fun k f hf => ?_⟩
    obtain ⟨rfl, rfl⟩ := one_get hf
    rw [e]
    intro j v hv
    have := row_at w (fcells fA) 38 j v hv
    rw [Addr.add_mid] at this
    simpa using this
  have HFA := Lib.hid hfa
  clear hfa
  go_enter Tryz.func8, Tryz.ntmps8
  go_upto_region 2 with (first
    | (go_at_call 9
       refine (IsoImage_any (some ⟨w.heap.size, 0, none⟩) 1 [fA] ⟨#[86]⟩ _ (HFA.out _ rfl) good_A.files (by decide)).mono ?_
       rintro e w2 ⟨I, L, D, rfl, hblk, hlen, hI, himg, hb2⟩
       have HBLK := Lib.hid hblk
       have HLEN := Lib.hid hlen
       have HIMG := Lib.hid himg
       have HB2 := Lib.hid (((Below.refl w.heap.size w).alloc (Nat.le_refl _) _).trans (hb2.mono (by simp)))
       clear hblk hlen himg hb2))
  obtain ⟨nd, ks, ds, P, hnodes, tr⟩ := HIMG.out.tr good_A apart_A (by decide)
  have HOP := Lib.hid (isoOpen_any tr I L ea w2 HLEN.out HBLK.out (by decide) (HE.out.keep HB2.out (by omega)) (tabs_keep HT.out HB2.out h6) (by have := HB2.out.size; omega))
  have HND := Lib.hid hnodes
  clear hnodes
  go_upto_region 3 with (first
    | (go_at_call 10
       refine HOP.out.mono ?_
       rintro e w3 ⟨v, ls, rfl, hls, hown, hb3⟩
       obtain ⟨l, rfl, hld⟩ := leaf_A HND.out tr rfl hls
       have HOWN := Lib.hid hown
       have HB3 := Lib.hid hb3
       have HLD := Lib.hid hld
       clear hown hb3 hls hld))
  have hown1 : OwnS w3 w2.heap.size 15 v 1 (lsC [l]) := HOWN.out
  obtain ⟨g, cap, rfl⟩ := hown1.pos (by decide)
  have hc : w3.cell? ⟨g, 14, none⟩ = some (.string ⟨#[120]⟩) := by
    have h := hown1.cell (j := 14) (u := .string l.data) rfl
    rw [HLD.out] at h
    exact h
  clear hown1
  go_wp2_with (fail)
  go_ret
  exact ⟨rfl, HB2.out.trans (HB3.out.mono HB2.out.size)⟩

end Go.Proofs.YtfppgplboomdbaaGreatDoor

namespace Go.Proofs.YtfppgplboomdbaaGreatDoor
open Go.RowKit

def volC (q : Nat) : ByteArray := ⟨#[UInt8.ofNat (65 + q)]⟩
theorem rune_str (w : World) : ∀ q : Nat, q < 26 → (convert 21 9 (.int .i32 (65 + (q : Int)))).run Tryz.prog w = .ok (.string (volC q)) w
  | 0, _ => by kernel_rfl
  | 1, _ => by kernel_rfl
  | 2, _ => by kernel_rfl
  | 3, _ => by kernel_rfl
  | 4, _ => by kernel_rfl
  | 5, _ => by kernel_rfl
  | 6, _ => by kernel_rfl
  | 7, _ => by kernel_rfl
  | 8, _ => by kernel_rfl
  | 9, _ => by kernel_rfl
  | 10, _ => by kernel_rfl
  | 11, _ => by kernel_rfl
  | 12, _ => by kernel_rfl
  | 13, _ => by kernel_rfl
  | 14, _ => by kernel_rfl
  | 15, _ => by kernel_rfl
  | 16, _ => by kernel_rfl
  | 17, _ => by kernel_rfl
  | 18, _ => by kernel_rfl
  | 19, _ => by kernel_rfl
  | 20, _ => by kernel_rfl
  | 21, _ => by kernel_rfl
  | 22, _ => by kernel_rfl
  | 23, _ => by kernel_rfl
  | 24, _ => by kernel_rfl
  | 25, _ => by kernel_rfl
  | q + 26, h => by omega

end Go.Proofs.YtfppgplboomdbaaGreatDoor
