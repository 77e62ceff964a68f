/- Part of the proofs of laws.FnIsoTree and laws.FnIsoAt: lemmas and contracts of functions that the two laws reach, each under the hypotheses that its own statement names. -/
import Derived.Test.YtfppgplboomdbaaGreatDoorMPart02
namespace Go.Proofs.YtfppgplboomdbaaGreatDoor
open Go.RowKit

def idP (nd : Nat → Nd) (d : Nat) : Bs := if d = 0 then [0] else (nd d).id.data.toList
def pathEnt (nd : Nat → Nd) (little : Bool) (d : Nat) : Bs :=
  [by8 ((idP nd d).length : Nat), 0] ++ numB little 4 (nd d).ext ++ numB little 2 (nd (nd d).parent).number ++ idP nd d ++ (if (idP nd d).length % 2 = 1 then [0] else [])
def pathsD (nd : Nat → Nd) (little : Bool) (ds : List Nat) : Bs := ds.flatMap (pathEnt nd little)
/-- What isoPaths asks of the nodes. -/
structure NdOK (nd : Nat → Nd) (n : Nat) : Prop where
  ext : ∀ i, i < n → 0 ≤ (nd i).ext ∧ (nd i).ext < 4294967296
  num : ∀ i, i < n → (nd i).f.dir = true → 0 ≤ (nd i).number ∧ (nd i).number < 65536
  pdir : ∀ i, i < n → (nd (nd i).parent).f.dir = true
  par : ∀ i, i < n → (nd i).parent < n
  id : ∀ i, i < n → (nd i).id.size ≤ 255
  idne : ∀ i, 1 ≤ i → i < n → 0 < (nd i).id.size
theorem numB_length (little : Bool) (b : Nat) (n : Int) : (numB little b n).length = b := by simp [numB]
theorem NdOK.idP_len {nd : Nat → Nd} {n d : Nat} (h : NdOK nd n) (hd : d < n) : 0 < (idP nd d).length ∧ (idP nd d).length ≤ 255 := by
  unfold idP
  split
  · simp
  · have h1 := h.id d hd
    have h2 := h.idne d (by omega) hd
    have : (nd d).id.data.toList.length = (nd d).id.size := rfl
    omega
theorem pathEnt_len {nd : Nat → Nd} {n d : Nat} (h : NdOK nd n) (hd : d < n) (little : Bool) : (pathEnt nd little d).length ≤ 264 := by
  have := h.idP_len hd
  unfold pathEnt
  simp only [List.length_append, numB_length]
  split <;> simp <;> omega
theorem pathsD_len {nd : Nat → Nd} {n : Nat} (h : NdOK nd n) (little : Bool) : ∀ ds : List Nat, (∀ d ∈ ds, d < n) → (pathsD nd little ds).length ≤ 264 * ds.length
  | [], _ => by simp [pathsD]
  | d :: ds, hd => by
    have h1 := pathEnt_len h (hd d (by simp)) little
    have h2 := pathsD_len h little ds (fun x hx => hd x (by simp [hx]))
    simp only [pathsD, List.flatMap_cons, List.length_append, List.length_cons] at *
    omega

theorem isoPaths1_lit (B po pl : Nat) (little : Bool) (b : Int) (bytes : Nat) (hbb : b = bytes) (hb : bytes = 2 ∨ bytes = 4) (n : Int) (hn0 : 0 ≤ n) (hn1 : n < 4294967296) (xs : Bs) (w : World) (hxs : xs.length ≤ 1000000)
    (ho : OutV w B po xs) (hl : w.cell? ⟨pl, 0, none⟩ = some (.bool little)) (hpl : pl < B) :
    Calls Tryz.prog 40 #[.int .u32 n, .int .i64 b, .pointer (some ⟨pl, 0, none⟩), .pointer (some ⟨po, 0, none⟩)] w fun e w' => e = .returned (.tuple #[]) ∧ OutV w' B po (xs ++ numB little bytes n) ∧ Below B w w' := by
  subst hbb; exact isoPaths1_any B po pl little bytes hb n hn0 hn1 xs w hxs ho hl hpl
theorem cell_set_same {w : World} {a : Addr} {u : Value} (h : w.cell? a = some u) (x : Value) : (w.setCell a x).cell? a = some x := by
  exact World.cell?_setCell_same (h := h) ..
theorem OutV.own_of {w : World} {B po : Nat} {xs : Bs} {v : Value} (h : OutV w B po xs) (hc : w.cell? ⟨po, 0, none⟩ = some v) : OwnS w B 1 v xs.length (bcs xs) ∧ v.ownBlock ≠ some po := by
  obtain ⟨v0, h1, h2, h3⟩ := h.ex
  rw [hc] at h1; cases h1; exact ⟨h2, h3⟩
theorem row_at_eq (w : World) (cs : List Value) (E : TypeId) (b : Nat) (hb : b = w.heap.size) : ∀ j u, cs[j]? = some u → (w.alloc (.cells cs.toArray E)).cell? ((⟨b, 0, none⟩ : Addr).add j) = some u := by subst hb; exact row_at w cs E
theorem pathsD_step {nd : Nat → Nd} {little : Bool} {ds : List Nat} {k d : Nat} (h : ds[k]? = some d) : pathsD nd little (ds.take (k + 1)) = pathsD nd little (ds.take k) ++ pathEnt nd little d := by
  rw [List.take_add_one, h]; simp [pathsD]
/-- The state of isoPaths. -/
structure PP (w wr : World) (little : Bool) (xs : Bs) : Prop where
  out : OutV wr (w.heap.size + 1) (w.heap.size + 1) xs
  below : Below w.heap.size w wr
  flag : wr.cell? ⟨w.heap.size, 0, none⟩ = some (.bool little)
theorem PP.app {w wr wa w' : World} {little : Bool} {xs news : Bs} {v v' : Value} (h : PP w wr little xs) (hv : wr.cell? ⟨w.heap.size + 1, 0, none⟩ = some v) (hwa : Below wr.heap.size wr wa)
    (hA : AppLeft wa (w.heap.size + 1) 1 xs.length news.length v (bcs xs) (bcs news) v' w') :
    PP w (w'.setCell ⟨w.heap.size + 1, 0, none⟩ v') little (xs ++ news) ∧ w'.cell? ⟨w.heap.size + 1, 0, none⟩ = some v ∧ w'.frozen? ⟨w.heap.size + 1, 0, none⟩ = false ∧ Below w.heap.size w w' := by
  have h1 := h.out.app hv hwa hA
  have hlt := h.out.lt
  have hb : Below (w.heap.size + 1) wr w' := (hwa.mono (by omega)).trans hA.below
  have hbw : Below w.heap.size w w' := h.below.trans (hb.mono (by omega))
  refine ⟨⟨h1.1, hbw.setCell (by show _ ≤ _ + 1; omega) _, ?_⟩, h1.2.1, h1.2.2, hbw⟩
  rw [World.cell?_of_block (w := w') (a := ⟨w.heap.size, 0, none⟩) (Below.heap_setCell _ _ _ _ (by show w.heap.size ≠ w.heap.size + 1; omega)), hb.cell (p := ⟨w.heap.size, 0, none⟩) (by show w.heap.size < _; omega)]
  exact h.flag
theorem PP.call {w wr w' : World} {little : Bool} {xs news : Bs} (h : PP w wr little xs) (ho : OutV w' (w.heap.size + 1) (w.heap.size + 1) (xs ++ news)) (hb : Below (w.heap.size + 1) wr w') : PP w w' little (xs ++ news) :=
  ⟨ho, h.below.trans (hb.mono (by omega)), by rw [hb.cell (p := ⟨w.heap.size, 0, none⟩) (by show w.heap.size < _; omega)]; exact h.flag⟩

set_option maxHeartbeats 4000000 in
set_option maxRecDepth 100000 in
theorem isoPaths_any (g n cap : Nat) (nd : Nat → Nd) (kv : Nat → Value) (w : World) (B Bd : Nat) (v : Value) (ds : List Nat) (little : Bool) (hown : OwnS w B 18 (.slice (some ⟨g, 0, none⟩) n cap) n (nodesL nd kv n)) (hdirs : OwnS w Bd 1 v ds.length (ds.map kidV))
    (hok : NdOK nd n) (hds : ∀ d ∈ ds, d < n) (hm : ds.length ≤ 101) (_hn : n ≤ 101) :
    Calls Tryz.prog 23 #[.slice (some ⟨g, 0, none⟩) n cap, v, .bool little] w fun e w' => ∃ v', e = .returned v' ∧ OwnS w' w.heap.size 1 v' (pathsD nd little ds).length (bcs (pathsD nd little ds)) ∧ Below w.heap.size w w' := by
  have HO := Lib.hid hown
  have HOK := Lib.hid hok
  have HDS := Lib.hid hds
  have hg := hown.lt.1
  obtain ⟨ad, cd, rfl⟩ := hdirs.slice
  clear hown hok hds
  generalize hM : ds.length = M at hm hdirs ⊢
  have HM := Lib.hid hM
  have HD := Lib.hid hdirs
  clear hM hdirs
  obtain ⟨i5, hi, hz0, hz1, hz2⟩ := info_parts Tryz.info5
  go_enter Tryz.func23, Tryz.ntmps23
  go_wp2
  have hstart : PP w ((w.alloc (.cells #[.bool little] 4)).alloc (.cells #[.slice none 0 0] 26)) little [] := by
    have hs1 : (w.alloc (.cells #[.bool little] 4)).heap.size = w.heap.size + 1 := by simp
    have h1 := heap_alloc_new (w.alloc (.cells #[.bool little] 4)) (.cells #[.slice none 0 0] 26)
    have hb1 : Below w.heap.size w (w.alloc (.cells #[.bool little] 4)) := (Below.refl _ _).alloc (Nat.le_refl _) _
    have c0 : (w.alloc (.cells #[.bool little] 4)).cell? ⟨w.heap.size, 0, none⟩ = some (.bool little) := by rw [cell_of_row _ _ _ _ _ _ (heap_alloc_new w _)]; rfl
    rw [hs1] at h1
    refine ⟨⟨⟨.slice none 0 0, ?_, OwnS.nil _ _ _, by simp [Value.ownBlock]⟩, ?_, Nat.le_refl _⟩, hb1.alloc (by rw [hs1]; omega) _, cell_ad c0 _⟩
    · rw [cell_of_row _ _ _ _ _ _ h1]; rfl
    · unfold World.frozen?; rw [h1]; rfl
  have HS0 := Lib.hid hstart
  clear hstart
  go_loopw [15] (fun iv wr => ∃ k : Nat, k ≤ M ∧ iv = .int .i64 k ∧ PP w wr little (pathsD nd little (ds.take k))) (fun iv _ => M - (intOf iv).toNat)
  case atStart => exact ⟨0, Nat.zero_le _, rfl, HS0.out⟩
  case round =>
    obtain ⟨k, hk, rfl, hP⟩ := hrel
    have HP := Lib.hid hP
    clear hP HS0
    by_cases hlt : k < M
    · obtain ⟨d, hd⟩ : ∃ d, ds[k]? = some d := ⟨ds[k]'(by rw [HM.out]; exact hlt), List.getElem?_eq_getElem _⟩
      have hdn : d < n := HDS.out d (List.mem_of_getElem? hd)
      have hdown := HD.out.below HP.out.below
      obtain ⟨gd, cd', e4⟩ := hdown.pos (by omega)
      obtain ⟨rfl, rfl⟩ : ad = some ⟨gd, 0, none⟩ ∧ cd = cd' := by cases e4; exact ⟨rfl, rfl⟩
      have cdk : wr.cell? ⟨gd, k, none⟩ = some (.int .i64 d) := by
        exact hdown.cell (by rw [List.getElem?_map, hd]; rfl)
      have cid : wr.cell? ⟨g, d * 18 + 8, none⟩ = some (.string (nd d).id) := (HO.out.below HP.out.below).node hdn 8 _ rfl
      obtain ⟨v, hv, hov, hvne⟩ := HP.out.out.ex
      have hfo := HP.out.out.free
      have Hd := Lib.hid hd
      have HV := Lib.hid hov
      clear hd hdown e4 hov
      have hsz := HP.out.below.size
      have hgne : g ≠ w.heap.size + 1 := by omega
      have hlt0 := HP.out.out.lt
      have hidl := HOK.out.idP_len hdn
      have hlen : (pathsD nd little (ds.take k)).length ≤ 264 * 101 := by
        refine Nat.le_trans (pathsD_len HOK.out little _ (fun x hx => HDS.out x (List.mem_of_mem_take hx))) ?_
        rw [List.length_take]; omega
      generalize hys : pathsD nd little (ds.take k) = ys at HP HV hlen
      have HYS := Lib.hid hys
      clear hys
      have hpn : (nd d).parent < n := HOK.out.par d hdn
      have hnum0 := (HOK.out.num _ hpn (HOK.out.pdir _ hdn)).1
      have hnum1 := (HOK.out.num _ hpn (HOK.out.pdir _ hdn)).2
      have hgne' : w.heap.size + 1 ≠ g := by omega
      have hpz : ((nd d).parent : Int) < n := by omega
      rcases Nat.eq_zero_or_pos d with rfl | hd0
      · have E1 : Hid ([Value.int .u8 1, Value.int .u8 0] = bcs [by8 ((idP nd 0).length : Nat), 0]) := rfl
        have hidp : 0 < (ByteArray.mk #[0]).size := by decide
        have hidp2 : Hid ((ByteArray.mk #[0]).size ≤ 255) := by show _ ≤ _; decide
        go_wp2_with (first
          | (refine wpList_append_ownS' rfl (.tmp 26) (.tmp 30) 26 rfl (w.heap.size + 1) 5 i5 (.int .u8 0) 1 1 Tryz.underlying26 hi hz0 hz1 hz2 rfl (by decide) v ys.length (bcs ys) (by rfl) (HV.out.alloc _) ⟨wr.heap.size, 0, none⟩ 2 2 [_, _] (by rfl) rfl (row_at wr _ 5) (by intro u hu; simp at hu; rcases hu with rfl | rfl <;> rfl) (by omega) (by unfold maxLen; omega) (by omega) (by simp; omega) ?_
             intro v5 w5 hA5
             rw [E1.out] at hA5
             have L5 := Lib.hid (show (ys ++ [by8 ((idP nd 0).length : Nat), 0]).length ≤ 30000 by rw [List.length_append]; show ys.length + 2 ≤ _; omega)
             have h5 := HP.out.app (news := [by8 ((idP nd 0).length : Nat), 0]) hv ((Below.refl _ wr).alloc (Nat.le_refl _) _) hA5
             obtain ⟨g5, cap5, rfl⟩ := hA5.own.pos (by show 0 < ys.length + 2; omega)
             have c5 := h5.2.1
             have f5 := h5.2.2.1
             have x5 : w5.cell? ⟨g, 0 * 18 + 11, none⟩ = some (.int .u32 (nd 0).ext) := (HO.out.below h5.2.2.2).node hdn 11 _ rfl
             have P5 := Lib.hid h5.1
             clear hA5 h5)
          | (go_at_call 40
             refine (isoPaths1_lit (w.heap.size + 1) (w.heap.size + 1) w.heap.size little 4 4 rfl (.inr rfl) (nd 0).ext (HOK.out.ext 0 hdn).1 (HOK.out.ext 0 hdn).2 (ys ++ [by8 ((idP nd 0).length : Nat), 0]) _ (Nat.le_trans L5.out (by omega)) P5.out.out P5.out.flag (Nat.lt_succ_self _)).mono ?_
             rintro e w6 ⟨rfl, ho6, hb6⟩
             have h6 := P5.out.call ho6 hb6
             have q6 : w6.cell? ⟨g, 0 * 18 + 9, none⟩ = some (.int .i64 (nd 0).parent) := (HO.out.below h6.below).node hdn 9 _ rfl
             have n6 : w6.cell? ⟨g, (nd 0).parent * 18 + 16, none⟩ = some (.int .i64 (nd (nd 0).parent).number) := (HO.out.below h6.below).node hpn 16 _ rfl
             have P6 := Lib.hid h6
             have L6 := Lib.hid (show (ys ++ [by8 ((idP nd 0).length : Nat), 0] ++ numB little 4 (nd 0).ext).length ≤ 30004 by rw [List.length_append, numB_length]; have := L5.out; omega)
             clear ho6 hb6 h6 P5 x5)
          | (go_at_call 40
             refine (isoPaths1_lit (w.heap.size + 1) (w.heap.size + 1) w.heap.size little 2 2 rfl (.inl rfl) (nd (nd 0).parent).number hnum0 (by omega) (ys ++ [by8 ((idP nd 0).length : Nat), 0] ++ numB little 4 (nd 0).ext) _ (Nat.le_trans L6.out (by omega)) P6.out.out P6.out.flag (Nat.lt_succ_self _)).mono ?_
             rintro e w7 ⟨rfl, ho7, hb7⟩
             have h7 := P6.out.call ho7 hb7
             obtain ⟨v7, hv7, hov7, hvne7⟩ := h7.out.ex
             have hf7 := h7.out.free
             have HV7 := Lib.hid hov7
             have P7 := Lib.hid h7
             have L7 := Lib.hid (show (ys ++ [by8 ((idP nd 0).length : Nat), 0] ++ numB little 4 (nd 0).ext ++ numB little 2 (nd (nd 0).parent).number).length ≤ 30006 by rw [List.length_append, numB_length]; have := L6.out; omega)
             clear ho7 hb7 h7 hov7 P6 q6 n6)
          | (refine wpList_append_str rfl (.tmp 51) (.tmp 52) 26 9 rfl (w.heap.size + 1) 5 i5 Tryz.underlying26 Tryz.underlying9 hi hz0 hz1 hz2 v7 (ys ++ [by8 ((idP nd 0).length : Nat), 0] ++ numB little 4 (nd 0).ext ++ numB little 2 (nd (nd 0).parent).number).length (bcs (ys ++ [by8 ((idP nd 0).length : Nat), 0] ++ numB little 4 (nd 0).ext ++ numB little 2 (nd (nd 0).parent).number)) (by rfl) HV7.out ⟨#[0]⟩ (by rfl) (⟨#[0]⟩ : ByteArray).size rfl hidp (by unfold maxLen; have := L7.out; have := hidp2.out; omega) (by have := L7.out; have := hidp2.out; omega) (Nat.le_of_lt P7.out.out.lt) ?_
             intro v8 w8 hA8
             have h8 := P7.out.app (news := (⟨#[0]⟩ : ByteArray).data.toList) hv7 (Below.refl _ _) hA8
             obtain ⟨g8, cap8, e8⟩ := hA8.own.pos (Nat.lt_of_lt_of_le hidp (Nat.le_add_left _ _))
             obtain ⟨m8, hm8⟩ : ∃ m8 : Nat, (ys ++ [by8 ((idP nd 0).length : Nat), 0] ++ numB little 4 (nd 0).ext ++ numB little 2 (nd (nd 0).parent).number).length + (⟨#[0]⟩ : ByteArray).size = m8 := ⟨_, rfl⟩
             rw [hm8] at e8
             subst e8
             clear hm8
             have c8 := h8.2.1
             have f8 := h8.2.2.1
             have P8 := Lib.hid h8.1
             have O8 := Lib.hid (h8.1.out.own_of (cell_set_same h8.2.1 _))
             have L8 := Lib.hid (show (ys ++ [by8 ((idP nd 0).length : Nat), 0] ++ numB little 4 (nd 0).ext ++ numB little 2 (nd (nd 0).parent).number ++ (⟨#[0]⟩ : ByteArray).data.toList).length ≤ 30261 by rw [List.length_append]; have := L7.out; have := hidp2.out; show _ + (⟨#[0]⟩ : ByteArray).size ≤ _; omega)
             have s8 : w.heap.size + 1 < w8.heap.size := by have := h8.1.out.lt; simpa [World.setCell] using this
             clear hA8 h8)
          | (refine wpList_append_ownS' rfl (.tmp 58) (.tmp 59) 26 rfl (w.heap.size + 1) 5 i5 (.int .u8 0) 1 1 Tryz.underlying26 hi hz0 hz1 hz2 rfl (by decide) _ (ys ++ [by8 ((idP nd 0).length : Nat), 0] ++ numB little 4 (nd 0).ext ++ numB little 2 (nd (nd 0).parent).number ++ (⟨#[0]⟩ : ByteArray).data.toList).length (bcs (ys ++ [by8 ((idP nd 0).length : Nat), 0] ++ numB little 4 (nd 0).ext ++ numB little 2 (nd (nd 0).parent).number ++ (⟨#[0]⟩ : ByteArray).data.toList)) (by rfl) (O8.out.1.alloc _) ⟨w8.heap.size, 0, none⟩ 1 1 [.int .u8 0] (by rfl) rfl (row_at_eq _ [.int .u8 0] 5 w8.heap.size (by simp [World.setCell])) (by intro u hu; simp at hu; subst hu; rfl) (by omega) (by unfold maxLen; have := L8.out; omega) (by have := L8.out; omega) (by simp [World.setCell]; omega) ?_
             intro v9 w9 hA9
             have h9 := P8.out.app (news := [0]) (cell_set_same c8 _) ((Below.refl _ _).alloc (Nat.le_refl _) _) hA9
             obtain ⟨g9, cap9, e9⟩ := hA9.own.pos (Nat.succ_pos _)
             obtain ⟨m9, hm9⟩ : ∃ m9 : Nat, (ys ++ [by8 ((idP nd 0).length : Nat), 0] ++ numB little 4 (nd 0).ext ++ numB little 2 (nd (nd 0).parent).number ++ (⟨#[0]⟩ : ByteArray).data.toList).length + 1 = m9 := ⟨_, rfl⟩
             rw [hm9] at e9
             subst e9
             clear hm9
             have c9 := h9.2.1
             have f9 := h9.2.2.1
             have P9 := Lib.hid h9.1
             clear hA9 h9))
        refine ⟨⟨k + 1, hlt, rfl, ?_⟩, by simp [intOf]; omega⟩
        rw [pathsD_step Hd.out, HYS.out]
        have h9 := P9.out
        have e : (ys ++ [by8 ((idP nd 0).length : Nat), 0] ++ numB little 4 (nd 0).ext ++ numB little 2 (nd (nd 0).parent).number ++ (⟨#[0]⟩ : ByteArray).data.toList ++ [0]) = ys ++ pathEnt nd little 0 := by
          simp [pathEnt, idP]
        rw [e] at h9
        exact h9
      · have hids := HOK.out.id d hdn
        have hidp : 0 < (nd d).id.size := HOK.out.idne d hd0 hdn
        have hidp2 : Hid ((nd d).id.size ≤ 255) := hids
        have hdz : ¬ (d : Int) = 0 := by omega
        have E1 : Hid ([Value.int .u8 ((nd d).id.size : Int), Value.int .u8 0] = bcs [by8 ((idP nd d).length : Nat), 0]) := by
          have e : (idP nd d).length = (nd d).id.size := by unfold idP; rw [if_neg (by omega)]; rfl
          rw [Hid, e]
          show [_, _] = [_, _]
          rw [bcell_of ((nd d).id.size : Int) (by omega) (by omega)]
          rfl
        rcases Nat.mod_two_eq_zero_or_one (nd d).id.size with hp | hp
        · have hpz : ((nd d).id.size : Int) % 2 = 0 := by omega
          go_wp2_with (first
            | (refine wpList_append_ownS' rfl (.tmp 26) (.tmp 30) 26 rfl (w.heap.size + 1) 5 i5 (.int .u8 0) 1 1 Tryz.underlying26 hi hz0 hz1 hz2 rfl (by decide) v ys.length (bcs ys) (by rfl) (HV.out.alloc _) ⟨wr.heap.size, 0, none⟩ 2 2 [_, _] (by rfl) rfl (row_at wr _ 5) (by intro u hu; simp at hu; rcases hu with rfl | rfl <;> rfl) (by omega) (by unfold maxLen; omega) (by omega) (by simp; omega) ?_
               intro v5 w5 hA5
               rw [E1.out] at hA5
               have L5 := Lib.hid (show (ys ++ [by8 ((idP nd d).length : Nat), 0]).length ≤ 30000 by rw [List.length_append]; show ys.length + 2 ≤ _; omega)
               have h5 := HP.out.app (news := [by8 ((idP nd d).length : Nat), 0]) hv ((Below.refl _ wr).alloc (Nat.le_refl _) _) hA5
               obtain ⟨g5, cap5, rfl⟩ := hA5.own.pos (by show 0 < ys.length + 2; omega)
               have c5 := h5.2.1
               have f5 := h5.2.2.1
               have x5 : w5.cell? ⟨g, d * 18 + 11, none⟩ = some (.int .u32 (nd d).ext) := (HO.out.below h5.2.2.2).node hdn 11 _ rfl
               have P5 := Lib.hid h5.1
               clear hA5 h5)
            | (go_at_call 40
               refine (isoPaths1_lit (w.heap.size + 1) (w.heap.size + 1) w.heap.size little 4 4 rfl (.inr rfl) (nd d).ext (HOK.out.ext d hdn).1 (HOK.out.ext d hdn).2 (ys ++ [by8 ((idP nd d).length : Nat), 0]) _ (Nat.le_trans L5.out (by omega)) P5.out.out P5.out.flag (Nat.lt_succ_self _)).mono ?_
               rintro e w6 ⟨rfl, ho6, hb6⟩
               have h6 := P5.out.call ho6 hb6
               have q6 : w6.cell? ⟨g, d * 18 + 9, none⟩ = some (.int .i64 (nd d).parent) := (HO.out.below h6.below).node hdn 9 _ rfl
               have n6 : w6.cell? ⟨g, (nd d).parent * 18 + 16, none⟩ = some (.int .i64 (nd (nd d).parent).number) := (HO.out.below h6.below).node hpn 16 _ rfl
               have P6 := Lib.hid h6
               have L6 := Lib.hid (show (ys ++ [by8 ((idP nd d).length : Nat), 0] ++ numB little 4 (nd d).ext).length ≤ 30004 by rw [List.length_append, numB_length]; have := L5.out; omega)
               clear ho6 hb6 h6 P5 x5)
            | (go_at_call 40
               refine (isoPaths1_lit (w.heap.size + 1) (w.heap.size + 1) w.heap.size little 2 2 rfl (.inl rfl) (nd (nd d).parent).number hnum0 (by omega) (ys ++ [by8 ((idP nd d).length : Nat), 0] ++ numB little 4 (nd d).ext) _ (Nat.le_trans L6.out (by omega)) P6.out.out P6.out.flag (Nat.lt_succ_self _)).mono ?_
               rintro e w7 ⟨rfl, ho7, hb7⟩
               have h7 := P6.out.call ho7 hb7
               obtain ⟨v7, hv7, hov7, hvne7⟩ := h7.out.ex
               have hf7 := h7.out.free
               have HV7 := Lib.hid hov7
               have P7 := Lib.hid h7
               have L7 := Lib.hid (show (ys ++ [by8 ((idP nd d).length : Nat), 0] ++ numB little 4 (nd d).ext ++ numB little 2 (nd (nd d).parent).number).length ≤ 30006 by rw [List.length_append, numB_length]; have := L6.out; omega)
               clear ho7 hb7 h7 hov7 P6 q6 n6)
            | (refine wpList_append_str rfl (.tmp 51) (.tmp 52) 26 9 rfl (w.heap.size + 1) 5 i5 Tryz.underlying26 Tryz.underlying9 hi hz0 hz1 hz2 v7 (ys ++ [by8 ((idP nd d).length : Nat), 0] ++ numB little 4 (nd d).ext ++ numB little 2 (nd (nd d).parent).number).length (bcs (ys ++ [by8 ((idP nd d).length : Nat), 0] ++ numB little 4 (nd d).ext ++ numB little 2 (nd (nd d).parent).number)) (by rfl) HV7.out (nd d).id (by rfl) ((nd d).id : ByteArray).size rfl hidp (by unfold maxLen; have := L7.out; have := hidp2.out; omega) (by have := L7.out; have := hidp2.out; omega) (Nat.le_of_lt P7.out.out.lt) ?_
               intro v8 w8 hA8
               have h8 := P7.out.app (news := ((nd d).id : ByteArray).data.toList) hv7 (Below.refl _ _) hA8
               obtain ⟨g8, cap8, e8⟩ := hA8.own.pos (Nat.lt_of_lt_of_le hidp (Nat.le_add_left _ _))
               obtain ⟨m8, hm8⟩ : ∃ m8 : Nat, (ys ++ [by8 ((idP nd d).length : Nat), 0] ++ numB little 4 (nd d).ext ++ numB little 2 (nd (nd d).parent).number).length + ((nd d).id : ByteArray).size = m8 := ⟨_, rfl⟩
               rw [hm8] at e8
               subst e8
               clear hm8
               have c8 := h8.2.1
               have f8 := h8.2.2.1
               have P8 := Lib.hid h8.1
               have O8 := Lib.hid (h8.1.out.own_of (cell_set_same h8.2.1 _))
               have L8 := Lib.hid (show (ys ++ [by8 ((idP nd d).length : Nat), 0] ++ numB little 4 (nd d).ext ++ numB little 2 (nd (nd d).parent).number ++ ((nd d).id : ByteArray).data.toList).length ≤ 30261 by rw [List.length_append]; have := L7.out; have := hidp2.out; show _ + ((nd d).id : ByteArray).size ≤ _; omega)
               have s8 : w.heap.size + 1 < w8.heap.size := by have := h8.1.out.lt; simpa [World.setCell] using this
               clear hA8 h8)
            | (refine wpList_append_ownS' rfl (.tmp 58) (.tmp 59) 26 rfl (w.heap.size + 1) 5 i5 (.int .u8 0) 1 1 Tryz.underlying26 hi hz0 hz1 hz2 rfl (by decide) _ (ys ++ [by8 ((idP nd d).length : Nat), 0] ++ numB little 4 (nd d).ext ++ numB little 2 (nd (nd d).parent).number ++ ((nd d).id : ByteArray).data.toList).length (bcs (ys ++ [by8 ((idP nd d).length : Nat), 0] ++ numB little 4 (nd d).ext ++ numB little 2 (nd (nd d).parent).number ++ ((nd d).id : ByteArray).data.toList)) (by rfl) (O8.out.1.alloc _) ⟨w8.heap.size, 0, none⟩ 1 1 [.int .u8 0] (by rfl) rfl (row_at_eq _ [.int .u8 0] 5 w8.heap.size (by simp [World.setCell])) (by intro u hu; simp at hu; subst hu; rfl) (by omega) (by unfold maxLen; have := L8.out; omega) (by have := L8.out; omega) (by simp [World.setCell]; omega) ?_
               intro v9 w9 hA9
               have h9 := P8.out.app (news := [0]) (cell_set_same c8 _) ((Below.refl _ _).alloc (Nat.le_refl _) _) hA9
               obtain ⟨g9, cap9, e9⟩ := hA9.own.pos (Nat.succ_pos _)
               obtain ⟨m9, hm9⟩ : ∃ m9 : Nat, (ys ++ [by8 ((idP nd d).length : Nat), 0] ++ numB little 4 (nd d).ext ++ numB little 2 (nd (nd d).parent).number ++ ((nd d).id : ByteArray).data.toList).length + 1 = m9 := ⟨_, rfl⟩
               rw [hm9] at e9
               subst e9
               clear hm9
               have c9 := h9.2.1
               have f9 := h9.2.2.1
               have P9 := Lib.hid h9.1
               clear hA9 h9))
          refine ⟨⟨k + 1, hlt, rfl, ?_⟩, by simp [intOf]; omega⟩
          rw [pathsD_step Hd.out, HYS.out]
          have h9 := P8.out
          have e : (ys ++ [by8 ((idP nd d).length : Nat), 0] ++ numB little 4 (nd d).ext ++ numB little 2 (nd (nd d).parent).number ++ ((nd d).id : ByteArray).data.toList) = ys ++ pathEnt nd little d := by
            have h0 : d ≠ 0 := by omega
            have h1 : (nd d).id.data.toList.length = (nd d).id.size := rfl
            simp [pathEnt, idP, h0]
            omega
          rw [e] at h9
          exact h9
        · have hpz : ((nd d).id.size : Int) % 2 = 1 := by omega
          go_wp2_with (first
            | (refine wpList_append_ownS' rfl (.tmp 26) (.tmp 30) 26 rfl (w.heap.size + 1) 5 i5 (.int .u8 0) 1 1 Tryz.underlying26 hi hz0 hz1 hz2 rfl (by decide) v ys.length (bcs ys) (by rfl) (HV.out.alloc _) ⟨wr.heap.size, 0, none⟩ 2 2 [_, _] (by rfl) rfl (row_at wr _ 5) (by intro u hu; simp at hu; rcases hu with rfl | rfl <;> rfl) (by omega) (by unfold maxLen; omega) (by omega) (by simp; omega) ?_
               intro v5 w5 hA5
               rw [E1.out] at hA5
               have L5 := Lib.hid (show (ys ++ [by8 ((idP nd d).length : Nat), 0]).length ≤ 30000 by rw [List.length_append]; show ys.length + 2 ≤ _; omega)
               have h5 := HP.out.app (news := [by8 ((idP nd d).length : Nat), 0]) hv ((Below.refl _ wr).alloc (Nat.le_refl _) _) hA5
               obtain ⟨g5, cap5, rfl⟩ := hA5.own.pos (by show 0 < ys.length + 2; omega)
               have c5 := h5.2.1
               have f5 := h5.2.2.1
               have x5 : w5.cell? ⟨g, d * 18 + 11, none⟩ = some (.int .u32 (nd d).ext) := (HO.out.below h5.2.2.2).node hdn 11 _ rfl
               have P5 := Lib.hid h5.1
               clear hA5 h5)
            | (go_at_call 40
               refine (isoPaths1_lit (w.heap.size + 1) (w.heap.size + 1) w.heap.size little 4 4 rfl (.inr rfl) (nd d).ext (HOK.out.ext d hdn).1 (HOK.out.ext d hdn).2 (ys ++ [by8 ((idP nd d).length : Nat), 0]) _ (Nat.le_trans L5.out (by omega)) P5.out.out P5.out.flag (Nat.lt_succ_self _)).mono ?_
               rintro e w6 ⟨rfl, ho6, hb6⟩
               have h6 := P5.out.call ho6 hb6
               have q6 : w6.cell? ⟨g, d * 18 + 9, none⟩ = some (.int .i64 (nd d).parent) := (HO.out.below h6.below).node hdn 9 _ rfl
               have n6 : w6.cell? ⟨g, (nd d).parent * 18 + 16, none⟩ = some (.int .i64 (nd (nd d).parent).number) := (HO.out.below h6.below).node hpn 16 _ rfl
               have P6 := Lib.hid h6
               have L6 := Lib.hid (show (ys ++ [by8 ((idP nd d).length : Nat), 0] ++ numB little 4 (nd d).ext).length ≤ 30004 by rw [List.length_append, numB_length]; have := L5.out; omega)
               clear ho6 hb6 h6 P5 x5)
            | (go_at_call 40
               refine (isoPaths1_lit (w.heap.size + 1) (w.heap.size + 1) w.heap.size little 2 2 rfl (.inl rfl) (nd (nd d).parent).number hnum0 (by omega) (ys ++ [by8 ((idP nd d).length : Nat), 0] ++ numB little 4 (nd d).ext) _ (Nat.le_trans L6.out (by omega)) P6.out.out P6.out.flag (Nat.lt_succ_self _)).mono ?_
               rintro e w7 ⟨rfl, ho7, hb7⟩
               have h7 := P6.out.call ho7 hb7
               obtain ⟨v7, hv7, hov7, hvne7⟩ := h7.out.ex
               have hf7 := h7.out.free
               have HV7 := Lib.hid hov7
               have P7 := Lib.hid h7
               have L7 := Lib.hid (show (ys ++ [by8 ((idP nd d).length : Nat), 0] ++ numB little 4 (nd d).ext ++ numB little 2 (nd (nd d).parent).number).length ≤ 30006 by rw [List.length_append, numB_length]; have := L6.out; omega)
               clear ho7 hb7 h7 hov7 P6 q6 n6)
            | (refine wpList_append_str rfl (.tmp 51) (.tmp 52) 26 9 rfl (w.heap.size + 1) 5 i5 Tryz.underlying26 Tryz.underlying9 hi hz0 hz1 hz2 v7 (ys ++ [by8 ((idP nd d).length : Nat), 0] ++ numB little 4 (nd d).ext ++ numB little 2 (nd (nd d).parent).number).length (bcs (ys ++ [by8 ((idP nd d).length : Nat), 0] ++ numB little 4 (nd d).ext ++ numB little 2 (nd (nd d).parent).number)) (by rfl) HV7.out (nd d).id (by rfl) ((nd d).id : ByteArray).size rfl hidp (by unfold maxLen; have := L7.out; have := hidp2.out; omega) (by have := L7.out; have := hidp2.out; omega) (Nat.le_of_lt P7.out.out.lt) ?_
               intro v8 w8 hA8
               have h8 := P7.out.app (news := ((nd d).id : ByteArray).data.toList) hv7 (Below.refl _ _) hA8
               obtain ⟨g8, cap8, e8⟩ := hA8.own.pos (Nat.lt_of_lt_of_le hidp (Nat.le_add_left _ _))
               obtain ⟨m8, hm8⟩ : ∃ m8 : Nat, (ys ++ [by8 ((idP nd d).length : Nat), 0] ++ numB little 4 (nd d).ext ++ numB little 2 (nd (nd d).parent).number).length + ((nd d).id : ByteArray).size = m8 := ⟨_, rfl⟩
               rw [hm8] at e8
               subst e8
               clear hm8
               have c8 := h8.2.1
               have f8 := h8.2.2.1
               have P8 := Lib.hid h8.1
               have O8 := Lib.hid (h8.1.out.own_of (cell_set_same h8.2.1 _))
               have L8 := Lib.hid (show (ys ++ [by8 ((idP nd d).length : Nat), 0] ++ numB little 4 (nd d).ext ++ numB little 2 (nd (nd d).parent).number ++ ((nd d).id : ByteArray).data.toList).length ≤ 30261 by rw [List.length_append]; have := L7.out; have := hidp2.out; show _ + ((nd d).id : ByteArray).size ≤ _; omega)
               have s8 : w.heap.size + 1 < w8.heap.size := by have := h8.1.out.lt; simpa [World.setCell] using this
               clear hA8 h8)
            | (refine wpList_append_ownS' rfl (.tmp 58) (.tmp 59) 26 rfl (w.heap.size + 1) 5 i5 (.int .u8 0) 1 1 Tryz.underlying26 hi hz0 hz1 hz2 rfl (by decide) _ (ys ++ [by8 ((idP nd d).length : Nat), 0] ++ numB little 4 (nd d).ext ++ numB little 2 (nd (nd d).parent).number ++ ((nd d).id : ByteArray).data.toList).length (bcs (ys ++ [by8 ((idP nd d).length : Nat), 0] ++ numB little 4 (nd d).ext ++ numB little 2 (nd (nd d).parent).number ++ ((nd d).id : ByteArray).data.toList)) (by rfl) (O8.out.1.alloc _) ⟨w8.heap.size, 0, none⟩ 1 1 [.int .u8 0] (by rfl) rfl (row_at_eq _ [.int .u8 0] 5 w8.heap.size (by simp [World.setCell])) (by intro u hu; simp at hu; subst hu; rfl) (by omega) (by unfold maxLen; have := L8.out; omega) (by have := L8.out; omega) (by simp [World.setCell]; omega) ?_
               intro v9 w9 hA9
               have h9 := P8.out.app (news := [0]) (cell_set_same c8 _) ((Below.refl _ _).alloc (Nat.le_refl _) _) hA9
               obtain ⟨g9, cap9, e9⟩ := hA9.own.pos (Nat.succ_pos _)
               obtain ⟨m9, hm9⟩ : ∃ m9 : Nat, (ys ++ [by8 ((idP nd d).length : Nat), 0] ++ numB little 4 (nd d).ext ++ numB little 2 (nd (nd d).parent).number ++ ((nd d).id : ByteArray).data.toList).length + 1 = m9 := ⟨_, rfl⟩
               rw [hm9] at e9
               subst e9
               clear hm9
               have c9 := h9.2.1
               have f9 := h9.2.2.1
               have P9 := Lib.hid h9.1
               clear hA9 h9))
          refine ⟨⟨k + 1, hlt, rfl, ?_⟩, by simp [intOf]; omega⟩
          rw [pathsD_step Hd.out, HYS.out]
          have h9 := P9.out
          have e : (ys ++ [by8 ((idP nd d).length : Nat), 0] ++ numB little 4 (nd d).ext ++ numB little 2 (nd (nd d).parent).number ++ ((nd d).id : ByteArray).data.toList ++ [0]) = ys ++ pathEnt nd little d := by
            have h0 : d ≠ 0 := by omega
            have h1 : (nd d).id.data.toList.length = (nd d).id.size := rfl
            simp [pathEnt, idP, h0]
            omega
          rw [e] at h9
          exact h9
    · obtain rfl : k = M := by omega
      have hP := HP.out
      rw [List.take_of_length_le (by rw [HM.out]; exact Nat.le_refl _)] at hP
      obtain ⟨v, hv, hov, hvne⟩ := hP.out.ex
      have HPE := Lib.hid hP
      have HVE := Lib.hid hov
      clear hP hov
      go_wp2
      go_ret
      exact ⟨v, rfl, HVE.out.mono (Nat.le_succ _), HPE.out.below⟩

end Go.Proofs.YtfppgplboomdbaaGreatDoor
