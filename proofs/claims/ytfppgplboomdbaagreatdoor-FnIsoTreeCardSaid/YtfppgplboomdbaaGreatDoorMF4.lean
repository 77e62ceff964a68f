/- Part of the proofs of laws.FnIsoTree and laws.FnIsoAt: lemmas and contracts of functions that the two laws reach, each under the hypotheses that its own statement names. -/
import Derived.Test.YtfppgplboomdbaaGreatDoorMPart05
import Derived.Outline
namespace Go.Proofs.YtfppgplboomdbaaGreatDoor
open Go.RowKit

theorem kids_len_aux : ∀ (n : Nat) (l : List Nat), l.Nodup → (∀ x ∈ l, 1 ≤ x ∧ x < n + 1) → l.length ≤ n
  | 0, l, _, hl => by
    cases l with
    | nil => simp
    | cons a l => have := hl a (by simp); omega
  | n + 1, l, h, hl => by
    by_cases hn : n + 1 ∈ l
    · have h1 := kids_len_aux n (l.erase (n + 1)) (h.erase _) (fun x hx => by
        have h2 := (h.mem_erase_iff).1 hx
        have := hl x h2.2
        have := h2.1
        omega)
      rw [List.length_erase_of_mem hn] at h1
      omega
    · have h1 := kids_len_aux n l h (fun x hx => by
        have := hl x hx
        have : x ≠ n + 1 := fun e => hn (e ▸ hx)
        omega)
      omega
theorem kids_len {nd : Nat → Nd} {ks : Nat → List Nat} {n q : Nat} (h : Tree nd ks (n + 1)) (hq : q < n + 1) : (ks q).length ≤ n :=
  kids_len_aux n (ks q) (h.nodup q hq) (fun x hx => by have := (h.mem q hq x).1 hx; omega)
theorem zero_bd {fs : List FileD} {nd : Nat → Nd} {ks0 : Nat → List Nat} (hb : Built fs nd ks0 fs.length) : ∀ i, i < fs.length + 1 → 0 ≤ (nd i).ext ∧ (nd i).ext ≤ 4294967295 := fun i hi => by
  have := (hb.zero i (by omega)).1; omega
def ImgPost (fs : List FileD) (vol : Bs) (w : World) (e : Ending) (w' : World) : Prop := ∃ I L D, e = .returned (.tuple #[.slice (some ⟨I, 0, none⟩) L L, .bool true]) ∧ Blk w' I D ∧ D.length = L ∧ w.heap.size ≤ I ∧ Img fs vol D ∧ Below w.heap.size w w'
set_option maxHeartbeats 20000000 in
set_option maxRecDepth 100000 in
theorem IsoImage_any (p : Option Addr) (c : Nat) (fs : List FileD) (vol : ByteArray) (w : World) (hfs : FilesAt w w.heap.size p fs) (hok : FilesOK fs) (hvol : vol.size ≤ 32) :
    Calls Tryz.prog 9 #[.slice p fs.length c, .string vol, .bool false] w fun e w' => ImgPost fs vol.data.toList w e w' := by
  have HF := Lib.hid hfs
  have HK := Lib.hid hok
  have hfew := hok.few
  clear hfs hok
  go_enter Tryz.func9, Tryz.ntmps9
  go_upto_region 14 with (first
    | (go_at_call 19
       refine (isoNodes_any _ _ _ _ HF.out HK.out.paths).mono ?_
       rintro e w1 ⟨g, cap, nd, ks, kv, rfl, hno, hki, ⟨ks0, hbu, hpe⟩, hb1⟩
       have HNO := Lib.hid hno
       have HKI := Lib.hid hki
       have HBU := Lib.hid hbu
       have HPE := Lib.hid hpe
       have HB1 := Lib.hid hb1
       have ht := hbu.tree hpe (by omega)
       have HT := Lib.hid ht
       clear hno hki hbu hpe hb1 ht)
    | (go_at_call 22
       refine (isoDirs_any _ _ _ _ _ _ _ _ HT.out HNO.out HKI.out).mono ?_
       rintro e w2 ⟨vd, ds, num, rfl, hds, hdo⟩
       have HS := Lib.hid (LSt.start HB1.out HKI.out HNO.out.lt.1 HNO.out.lt.2 hds)
       have HDO := Lib.hid hdo
       clear hds hdo))
  have hdl := HDO.out.len_le
  have HND := Lib.hid (ndok (ex := fun i => (nd i).ext) (sz := fun i => (nd i).size) HK.out HBU.out HT.out HDO.out (zero_bd HBU.out))
  have HP0 := Lib.hid (pathsD_len HND.out true ds (fun d hd => ((HDO.out.mem d).1 hd).1))
  go_upto_region 15 with (first
    | (go_at_call 23
       refine (isoPaths_any _ _ _ _ _ _ _ _ _ _ _ HS.out.nodes HS.out.dirs HND.out (fun d hd => ((HDO.out.mem d).1 hd).1) (by omega) (by omega)).mono ?_
       rintro e w3 ⟨v3, rfl, hov3, hb3⟩
       have HS3 := Lib.hid (HS.out.later hb3)
       obtain ⟨ad3, c3, rfl⟩ := hov3.slice
       clear hov3 hb3))
  generalize hP : (pathsD (wes nd num (fun i => (nd i).ext) (fun i => (nd i).size)) true ds).length = P at HP0 ⊢
  have hP1 : P ≤ 30000 := by have := HP0.out; omega
  have HPP := Lib.hid hP
  clear hP HP0 HS
  obtain ⟨bp, hbp⟩ : ∃ bp, bp = (P + 2047) / 2048 := ⟨_, rfl⟩
  have HBP := Lib.hid hbp
  have hbp1 : bp ≤ 20 := by omega
  clear hbp
  go_upto_region 19 with (first
    | (go_at_call 24; refine (blocksOf_nat P bp HBP.out (by omega) _).mono ?_; rintro e w4 ⟨rfl, rfl⟩))
  obtain ⟨gd, cd, rfl⟩ := HS3.out.dirs.pos (by have := HDO.out.head; cases hds : ds with
                                              | nil => rw [hds] at this; cases this
                                              | cons a l => simp)
  have hgd := HS3.out.dirs.lt
  have hgg := HS3.out.nodes.lt
  have hapd := HS3.out.apart
  generalize hM : ds.length = M at hdl ⊢
  have HM := Lib.hid hM
  clear hM
  have hgdne : gd ≠ g := fun e => hapd (by rw [e]; rfl)
  clear hapd
  go_wp2
  go_loopw [13, 80] (fun nv iv wr => ∃ (k nx : Nat) (ex sz : Nat → Int), k ≤ M ∧ iv = .int .i64 k ∧ nv = .int .u32 nx ∧ nx = 18 + bp + bp + k ∧ L1 w wr g (fs.length + 1) cap nd ks kv (.slice (some ⟨gd, 0, none⟩) ds.length cd) ds num ex sz (18 + bp + bp) nx (fun i => i ∈ ds.take k)) (fun _ iv _ => M - (intOf iv).toNat)
  case atStart =>
    refine ⟨0, 18 + bp + bp, _, _, Nat.zero_le _, rfl, by go_num, rfl, HS3.out, ?_, fun i hin _ => ?_, fun i hi => ?_⟩
    · exact (Laid.none _ _ _).weaken (fun i hi => by simp at hi)
    · have hz := HBU.out.zero i (by omega)
      exact ⟨hz.1, hz.2.1⟩
    · simp at hi
  case round =>
    obtain ⟨k, nxm, ex, sz, hk, rfl, rfl, hnx, hl1⟩ := hrel
    have HNX := Lib.hid hnx
    have hnx1 : nxm ≤ 100 := by omega
    have hnx0 : 18 ≤ nxm := by omega
    clear hnx
    have HL := Lib.hid hl1
    by_cases hlt : k < M
    · obtain ⟨q, hq⟩ : ∃ q, ds[k]? = some q := ⟨ds[k]'(by rw [HM.out]; exact hlt), List.getElem?_eq_getElem _⟩
      have hqm := (HDO.out.mem q).1 (List.mem_of_getElem? hq)
      have hqn := hqm.1
      have hck : wr.cell? ⟨gd, k, none⟩ = some (.int .i64 q) := by
        have h := hl1.st.dirs
        exact h.cell (by rw [List.getElem?_map, hq]; rfl)
      have HQ := Lib.hid hq
      have HQM := Lib.hid hqm
      clear hl1 hq hqm
      have hqz : (q : Int) < (fs.length : Int) + 1 := by omega
      have HNB := Lib.hid (HL.out.bd (by omega) (HBU.out.size_data HK.out))
      go_upto_region 23 with (first
        | (go_at_call 25
           refine (isoRecords_any _ _ _ _ ks _ _ _ _ _ HL.out.st.nodes HL.out.st.kids (wes_tree HT.out _ _ _) hqn HNB.out (fun x hx => HBU.out.size_id HK.out x ((HT.out.mem q hqn x).1 hx).1 ((HT.out.mem q hqn x).1 hx).2.1) (by have := kids_len HT.out hqn; omega)).mono ?_
           rintro e w5 ⟨v5, D5, rfl, hD5, hd5, ho5, hb5⟩
           obtain ⟨ad5, c5, rfl⟩ := ho5.slice
           have hrow := (HL.out.st.later hb5).row hqn
           have hfr := (HL.out.st.later hb5).nodes
           have c11 : w5.cell? ⟨g, q * 18 + 11, none⟩ = some (.int .u32 (ex q)) := hrow 11 _ rfl
           have c12 : w5.cell? ⟨g, q * 18 + 12, none⟩ = some (.int .u32 (sz q)) := hrow 12 _ rfl
           have f11 : w5.frozen? ⟨g, q * 18 + 11, none⟩ = false := hfr.free (by omega)
           have f12 : w5.frozen? ⟨g, q * 18 + 12, none⟩ = false := hfr.free (by omega)
           have HB5 := Lib.hid hb5
           clear hrow hfr hb5 ho5 hD5 hd5))
      have hb1 : ((2048 : Int) + 2047) / 2048 = 1 := by decide
      go_wp2_with (first
        | (go_at_call 24; refine (blocksOf_any 2048 (by omega) (by omega) _).mono ?_; rintro e w6 ⟨rfl, rfl⟩))
      go_roundw
      case rel =>
        have htk : ds.take (k + 1) = ds.take k ++ [q] := by rw [List.take_add_one, HQ.out]; rfl
        refine ⟨k + 1, nxm + 1, upd ex q nxm, upd sz q 2048, by omega, rfl, by go_num, by have := HNX.out; omega, ?_⟩
        refine HL.out.put (s := 2048) (m := 1) HB5.out hqn ?_ (fun i => by rw [htk, List.mem_append, List.mem_singleton]) (by simp [sizeOfN, HQM.out.2]) (by decide)
        intro hm
        rw [List.mem_take_iff_getElem] at hm
        obtain ⟨j, hj, ej⟩ := hm
        have hj2 : ds[j]? = some q := by rw [List.getElem?_eq_getElem (by omega)]; exact congrArg some ej
        have := (List.getElem?_inj (by omega : j < ds.length) HDO.out.nodup).1 (hj2.trans HQ.out.symm)
        omega
      case measure => simp [intOf]; omega
    · obtain rfl : k = M := by omega
      go_upto_region 27 with (first
        | (go_at_call 24; refine (blocksOf_any 0 (by omega) (by omega) _).mono ?_; rintro e w6 ⟨rfl, rfl⟩))
      have htk : ds.take k = ds := List.take_of_length_le (by rw [HM.out]; exact Nat.le_refl _)
      have hl2 := HL.out.iff (done' := fun x => x ∈ ds ∨ (x < 0 ∧ (nd x).f.dir = false)) (fun x => by rw [htk]; simp)
      have HL2 := Lib.hid hl2
      clear hl2 HL hl1 htk
      go_wp2
      go_loopw [13, 117] (fun nv iv wr => ∃ (i nx : Nat) (ex sz : Nat → Int), i ≤ fs.length + 1 ∧ iv = .int .i64 i ∧ nv = .int .u32 nx ∧ nx ≤ 100 + 50 * i ∧ L1 w wr g (fs.length + 1) cap nd ks kv (.slice (some ⟨gd, 0, none⟩) ds.length cd) ds num ex sz (18 + bp + bp) nx (fun x => x ∈ ds ∨ (x < i ∧ (nd x).f.dir = false))) (fun _ iv _ => fs.length + 1 - (intOf iv).toNat)
      case atStart => exact ⟨0, nxm, ex, sz, Nat.zero_le _, rfl, rfl, by omega, HL2.out⟩
      case round =>
        clear HL2 HNX
        obtain ⟨i, nx, ex, sz, hi, rfl, rfl, hnx, hl1⟩ := hrel
        have HL := Lib.hid hl1
        by_cases hlt : i < fs.length + 1
        · have hiz : (i : Int) < (fs.length : Int) + 1 := by omega
          have hrow := hl1.st.row hlt
          have hfr := hl1.st.nodes
          have c1 : wr.cell? ⟨g, i * 18 + 1, none⟩ = some (.bool (nd i).f.dir) := hrow 1 _ rfl
          have c2 : wr.cell? ⟨g, i * 18 + 2, none⟩ = some (.string (nd i).f.data) := hrow 2 _ rfl
          have c11 : wr.cell? ⟨g, i * 18 + 11, none⟩ = some (.int .u32 (ex i)) := hrow 11 _ rfl
          have c12 : wr.cell? ⟨g, i * 18 + 12, none⟩ = some (.int .u32 (sz i)) := hrow 12 _ rfl
          have f11 : wr.frozen? ⟨g, i * 18 + 11, none⟩ = false := hfr.free (by omega)
          have f12 : wr.frozen? ⟨g, i * 18 + 12, none⟩ = false := hfr.free (by omega)
          have hds := HBU.out.size_data HK.out i hlt
          clear hrow hfr hl1
          cases hdir : (nd i).f.dir with
          | true =>
            rw [hdir] at c1
            have HDIR := Lib.hid hdir
            clear hdir
            go_wp2
            go_roundw
            case rel =>
              refine ⟨i + 1, nx, ex, sz, by omega, by go_num, rfl, by omega, HL.out.iff (fun x => ?_)⟩
              constructor
              · rintro (h | ⟨h1, h2⟩)
                · exact .inl h
                · by_cases e : x = i
                  · subst e; rw [HDIR.out] at h2; cases h2
                  · exact .inr ⟨by omega, h2⟩
              · rintro (h | ⟨h1, h2⟩)
                · exact .inl h
                · exact .inr ⟨by omega, h2⟩
            case measure => simp [intOf]; omega
          | false =>
            rw [hdir] at c1
            have HDIR := Lib.hid hdir
            clear hdir
            generalize hsd : (nd i).f.data.size = sd at hds
            have HSD := Lib.hid hsd
            obtain ⟨m, hm⟩ : ∃ m, m = (sd + 2047) / 2048 := ⟨_, rfl⟩
            have HMM := Lib.hid hm
            have hm50 : m ≤ 50 := by omega
            clear hm
            go_wp2_with (first
              | (go_at_call 24; refine (blocksOf_nat sd m HMM.out (by omega) _).mono ?_; rintro e w6 ⟨rfl, rfl⟩))
            go_roundw
            case rel =>
              refine ⟨i + 1, nx + m, upd ex i nx, upd sz i sd, by omega, by go_num, by go_num, by omega, ?_⟩
              refine HL.out.put (s := sd) (m := m) (Below.refl _ _) hlt ?_ (fun x => ?_) (by simp [sizeOfN, HDIR.out, HSD.out]) HMM.out
              · rintro (h | ⟨h1, h2⟩)
                · have := ((HDO.out.mem i).1 h).2
                  rw [HDIR.out] at this; cases this
                · omega
              · constructor
                · rintro (h | ⟨h1, h2⟩)
                  · exact .inl (.inl h)
                  · by_cases e : x = i
                    · exact .inr e
                    · exact .inl (.inr ⟨by omega, h2⟩)
                · rintro ((h | ⟨h1, h2⟩) | h)
                  · exact .inl h
                  · exact .inr ⟨by omega, h2⟩
                  · subst h; exact .inr ⟨by omega, HDIR.out⟩
            case measure => simp [intOf]; omega
        · obtain rfl : i = fs.length + 1 := by omega
          have hnum := hl1.num (fun i hi => by
            cases hd : (nd i).f.dir with
            | true => exact .inl ((HDO.out.mem i).2 ⟨hi, hd⟩)
            | false => exact .inr ⟨hi, rfl⟩) HBP.out (by omega)
          have HNUM := Lib.hid hnum
          have HND2 := Lib.hid (ndok (ex := ex) (sz := sz) HK.out HBU.out HT.out HDO.out (fun i hi => (hl1.bd (by omega) (HBU.out.size_data HK.out)).ext i hi))
          have HPL := Lib.hid ((pathsD_len_eq nd num _ _ num ex sz true true ds).symm.trans HPP.out)
          have HPB := Lib.hid ((pathsD_len_eq nd num _ _ num ex sz true false ds).symm.trans HPP.out)
          have hnx1 : nx ≤ 2200 := by omega
          have hnx0 : 18 + bp + bp ≤ nx := by have := hl1.laid.le; omega
          have HST := Lib.hid hl1.st
          have hIw : w.heap.size ≤ wr.heap.size := hl1.st.below.size
          have hgI : g < wr.heap.size := hl1.st.nodes.lt.1
          have hgdI : gd < wr.heap.size := hl1.st.dirs.lt.1
          have HNBD := Lib.hid (hl1.bd (by omega) (HBU.out.size_data HK.out))
          clear hl1 HL hnum HPP
          obtain ⟨L, hL⟩ : ∃ L, L = nx * 2048 := ⟨_, rfl⟩
          have hLL : (nx : Int) * 2048 = L := by omega
          have hL9 : L ≤ 10000000 := by omega
          have HLL := Lib.hid hL
          clear hL
          obtain ⟨w7, hmk, h7, hb7, hs7⟩ := run_make_blk wr L (by omega)
          have HPB7 := Lib.hid (PB.start h7 hb7 hs7)
          clear h7 hb7
          go_upto_region 36 with (fail)
          clear hmk
          generalize hw8 : w7.alloc (.cells #[.slice (some ⟨wr.heap.size, 0, none⟩) L L] 26) = w8 at HPB7
          have HW8 := Lib.hid hw8
          clear hw8 hs7
          have hvl : vol.data.toList.length ≤ 32 := hvol
          have HVL := Lib.hid hvl
          have hrow := ((HST.out.later HPB7.out.below).row (q := 0) (by omega))
          have HROW := Lib.hid hrow
          clear hrow hvl
          have hb0 := (HNBD.out.ext 0 (by omega))
          have hs0 := (HNBD.out.size 0 (by omega))
          have HE0 := Lib.hid hb0
          have HS0 := Lib.hid hs0
          clear hb0 hs0
          go_upto_region 37 with (first
            | (refine wpList_load_mid rfl 61 (.tmp 163) rfl g 0 rfl (ncells (wes nd num ex sz 0) (kv 0)) _ HROW.out Tryz.underlying61 rfl rfl ?_)
            | (go_at_call 27
               refine (isoVolume_any vol _ _ _ _ _ _ _ _ _ _ _ _ _ _ _ _ (ex 0) (sz 0) nx P 18 (18 + bp) _ hvol HE0.out.1 HE0.out.2 HS0.out.1 HS0.out.2 (by omega) (by omega) (by omega) (by omega) (by omega) (by omega) (by omega) (by omega)).mono ?_
               rintro e w9 ⟨⟨gv, hgv, rfl, tm, htm, hbv⟩, hb9⟩
               have HTM := Lib.hid htm
               have HBV := Lib.hid hbv
               have HB9 := Lib.hid hb9
               clear htm hbv hb9 hgv)
            | (go_at_call 26
               refine ((HPB7.out.later HB9.out).put 16 16 2048 2048 _ rfl (SrcB.of_blk HBV.out) (volD_len _ _ _ _ _ _ _ _ HVL.out HTM.out) (by omega) (by omega)).mono ?_
               rintro e w10 ⟨rfl, hp10, _⟩
               have HP10 := Lib.hid hp10
               clear hp10))
          have hbpP : P ≤ bp * 2048 := by have := HBP.out; omega
          have hnxL : nx * 2048 = L := HLL.out.symm
          have hcv := fun (w : World) (C : Array Value) (n c : Nat) => Lib.run_convert_bytes_const (P := Tryz.prog) w 26 5 C n c Tryz.underlying26 Tryz.underlying5
          go_upto_region 38 with (first
            | (go_at_call 26
               refine ((HP10.out.later ((Below.refl _ _).alloc (Nat.le_refl _) _)).put 17 17 7 7 _ rfl (term_src w10) rfl (by omega) (by omega)).mono ?_
               rintro e w11 ⟨rfl, hp11, _⟩
               have HP11 := Lib.hid hp11
               clear hp11))
          go_upto_region 39 with (first
            | (go_at_call 23
               refine (isoPaths_at HST.out HP11.out.below HND2.out (fun d hd => ((HDO.out.mem d).1 hd).1) HM.out (by omega) (by omega) _ P HPL.out).mono ?_
               rintro e w12 ⟨ad12, cp12, rfl, hov, hbb⟩
               have HOV12 := Lib.hid hov
               have HBB12 := Lib.hid hbb
               clear hov hbb)
            | (go_at_call 26
               refine ((HP11.out.later HBB12.out).put 18 18 P _ _ (by first | rfl | omega) (SrcB.of_own HOV12.out).1 (SrcB.of_own HOV12.out).2 (by omega) (by omega)).mono ?_
               rintro e w13 ⟨rfl, hp13, _⟩
               have HP13 := Lib.hid hp13
               clear hp13))
          go_upto_region 40 with (first
            | (go_at_call 23
               refine (isoPaths_at HST.out HP13.out.below HND2.out (fun d hd => ((HDO.out.mem d).1 hd).1) HM.out (by omega) (by omega) _ P HPB.out).mono ?_
               rintro e w14 ⟨ad14, cp14, rfl, hov, hbb⟩
               have HOV14 := Lib.hid hov
               have HBB14 := Lib.hid hbb
               clear hov hbb)
            | (go_at_call 26
               refine ((HP13.out.later HBB14.out).put (18 + bp) (18 + bp) P _ _ (by first | rfl | omega) (SrcB.of_own HOV14.out).1 (SrcB.of_own HOV14.out).2 (by omega) (by omega)).mono ?_
               rintro e w15 ⟨rfl, hp15, _⟩
               have HP15 := Lib.hid hp15
               clear hp15))
          have e18 : (18 + (bp : Int)) = ((18 + bp : Nat) : Int) := by omega
          have hi0 := img0 vol.data.toList (wes nd num ex sz) ks ds nx bp P L tm HVL.out HTM.out HPL.out HPB.out HBP.out hnx0 HLL.out
          have hp15 := HP15.out
          rw [e18] at hp15
          have hp15' : PB wr w15 L _ := hp15
          have hi0' : ImgK vol.data.toList (wes nd num ex sz) ks ds nx (18 + bp) P 0 _ := hi0
          have HX : ∃ D, PB wr w15 L D ∧ ImgK vol.data.toList (wes nd num ex sz) ks ds nx (18 + bp) P 0 D := ⟨_, hp15, hi0⟩
          clear hp15 hi0 hp15' hi0' HP15 HP13 HP11 HP10 HPB7 HOV12 HOV14 HBB12 HBB14 HBV HB9 e18 hcv
          obtain ⟨D0, hpb0, himg0⟩ := HX
          have HPB0 := Lib.hid hpb0
          have HIM0 := Lib.hid himg0
          clear hpb0 himg0
          have HT2 := Lib.hid (wes_tree HT.out num ex sz)
          obtain ⟨w0, rfl⟩ : ∃ w0 : World, w0 = wr := ⟨_, rfl⟩
          go_wp2
          go_loopw [190] (fun iv wq => ∃ (i : Nat) (D : Bs), i ≤ fs.length + 1 ∧ iv = .int .i64 i ∧ PB w0 wq L D ∧ ImgK vol.data.toList (wes nd num ex sz) ks ds nx (18 + bp) P i D) (fun iv _ => fs.length + 1 - (intOf iv).toNat)
          case atStart => exact ⟨0, D0, Nat.zero_le _, rfl, HPB0.out, HIM0.out⟩
          case round =>
            clear HPB0 HIM0
            obtain ⟨i, D, hi, rfl, hpb, him⟩ := hrel
            have HPD := Lib.hid hpb
            have HIM := Lib.hid him
            clear hpb him
            by_cases hlt : i < fs.length + 1
            · have hiz : (i : Int) < (fs.length : Int) + 1 := by omega
              have hrow := (HST.out.later HPD.out.below).row hlt
              have HROW2 := Lib.hid hrow
              have hone := ncells_one (wes nd num ex sz i) (kv i) (HST.out.kids.own i hlt).one
              have HONE := Lib.hid hone
              clear hrow hone
              go_upto_region 43 with (first
                | (refine wpList_load_mid rfl 61 (.tmp 193) rfl g (i * 18) rfl (ncells (wes nd num ex sz i) (kv i)) _ HROW2.out Tryz.underlying61 rfl rfl ?_)
                | (refine wpList_store_fresh rfl 61 (.tmp 23) (.tmp 194) rfl _ 61 (ncells (wes nd num ex sz i) (kv i)).toArray rfl rfl rfl rfl HONE.out ?_
                   intro w16 hF
                   have c1 : w16.cell? ⟨wr.heap.size, 1, none⟩ = some (.bool (nd i).f.dir) := hF.range 1 _ rfl
                   have c2 : w16.cell? ⟨wr.heap.size, 2, none⟩ = some (.string (nd i).f.data) := hF.range 2 _ rfl
                   have c11 : w16.cell? ⟨wr.heap.size, 11, none⟩ = some (.int .u32 (ex i)) := hF.range 11 _ rfl
                   have HF16 := Lib.hid hF
                   clear hF))
              have hwl := HPD.out.lt
              have hb16 : Below w0.heap.size w0 w16 := HPD.out.below.trans (HF16.out.below.mono (by omega))
              have hs16 := HF16.out.size
              have hwi := HNUM.out.laid.within i hlt
              have hwz := HNUM.out.size i hlt
              have hex0 : 0 ≤ ex i := (HNBD.out.ext i hlt).1
              have hexE : ex i = ((ex i).toNat : Int) := (Int.toNat_of_nonneg hex0).symm
              have hin : (ex i).toNat * 2048 + (sizeOfN (wes nd num ex sz) i).toNat ≤ L ∧ 0 ≤ sizeOfN (wes nd num ex sz) i := by
                have h1 : ex i + blk (sz i) ≤ nx := hwi.2.1
                have h2 : 0 ≤ sz i := hwi.2.2
                have h3 : sz i = sizeOfN (wes nd num ex sz) i := hwz
                rw [h3] at h1 h2
                unfold blk at h1
                omega
              have HIN := Lib.hid hin
              have HEX := Lib.hid hexE
              have HB16 := Lib.hid hb16
              clear hwi hwz hin hexE hb16
              cases hdir : (nd i).f.dir with
              | true =>
                rw [hdir] at c1
                have HDIR := Lib.hid hdir
                clear hdir c2
                have hsz : sizeOfN (wes nd num ex sz) i = 2048 := by show (if (nd i).f.dir then _ else _) = _; rw [HDIR.out]; rfl
                have HSZ := Lib.hid hsz
                clear hsz
                go_wp2
                refine wp_region_noPanic ?_
                refine wp_region_held_drew (S := fun w' => w'.cell? ⟨wr.heap.size, 11, none⟩ = some (.int .u32 (ex i))) (by kernel_rfl) c11 (fun hS0 => ?_)
                refine hTake (i := 0) (v := ?_) (some 198) rfl rfl (by kernel_rfl) (by kernel_rfl) (by kernel_rfl) (fun _ _ _ h => h) (Or.inl ⟨by rfl, ?hy44x0⟩) hS0 ?hr44x0
                case hy44x0 => (intro w' hSw; clear hSw; go_simp; try with_reducible rfl)
                try simp only [Act.put, List.setIfInBounds_toArray, List.set_cons_zero, List.set_cons_succ]
                refine hTake (i := 1) (v := ?_) (some 199) rfl rfl (by kernel_rfl) (by kernel_rfl) (by kernel_rfl) (fun _ _ _ h => h) (Or.inl ⟨by rfl, ?hy44x1⟩) hS0 ?hr44x1
                case hy44x1 => (intro w' hSw; clear hSw; go_simp; try with_reducible rfl)
                try simp only [Act.put, List.setIfInBounds_toArray, List.set_cons_zero, List.set_cons_succ]
                refine hTake (i := 2) (v := ?_) (some 200) rfl rfl (by kernel_rfl) (by kernel_rfl) (by kernel_rfl) (fun _ _ _ h => h) (Or.inl ⟨by rfl, ?hy44x2⟩) hS0 ?hr44x2
                case hy44x2 => (intro w' hSw; have hSx := hSw; clear hSw; go_simp; try with_reducible rfl)
                try simp only [Act.put, List.setIfInBounds_toArray, List.set_cons_zero, List.set_cons_succ]
                refine hTake (i := 3) (v := ?_) (some 201) rfl rfl (by kernel_rfl) (by kernel_rfl) (by kernel_rfl) (fun _ _ _ h => h) (Or.inl ⟨by rfl, ?hy44x3⟩) hS0 ?hr44x3
                case hy44x3 => (intro w' hSw; clear hSw; go_simp; try with_reducible rfl)
                try simp only [Act.put, List.setIfInBounds_toArray, List.set_cons_zero, List.set_cons_succ]
                refine hTake (i := 4) (v := ?_) (some 202) rfl rfl (by kernel_rfl) (by kernel_rfl) (by kernel_rfl) (fun _ _ _ h => h) (Or.inl ⟨by rfl, ?hy44x4⟩) hS0 ?hr44x4
                case hy44x4 => (intro w' hSw; clear hSw; go_simp; try with_reducible rfl)
                try simp only [Act.put, List.setIfInBounds_toArray, List.set_cons_zero, List.set_cons_succ]
                refine hTake (i := 5) (v := ?_) (some 203) rfl rfl (by kernel_rfl) (by kernel_rfl) (by kernel_rfl) (fun _ _ _ h => h) (Or.inl ⟨by rfl, ?hy44x5⟩) hS0 ?hr44x5
                case hy44x5 => (intro w' hSw; clear hSw; go_simp; try with_reducible rfl)
                try simp only [Act.put, List.setIfInBounds_toArray, List.set_cons_zero, List.set_cons_succ]
                refine hTake (i := 6) (v := ?_) (some 204) rfl rfl (by kernel_rfl) (by kernel_rfl) (by kernel_rfl) (fun _ _ _ h => h) (Or.inl ⟨by rfl, ?hy44x6⟩) hS0 ?hr44x6
                case hy44x6 => (intro w' hSw; clear hSw; go_simp; try with_reducible rfl)
                try simp only [Act.put, List.setIfInBounds_toArray, List.set_cons_zero, List.set_cons_succ]
                refine wpAnyH_all (rs := [7]) (by kernel_rfl) (by simp) (rows1 ?_)
                refine hCall (f := 25) (args := #[.slice (some ⟨g, 0, none⟩) (fs.length + 1) cap, .int .i64 i, .bool false, .int .u32 nxm]) (some 205) rfl rfl rfl (by go_simp) ?_
                refine (isoRecords_any _ _ _ _ ks _ _ _ _ _ (HST.out.later HB16.out).nodes.drew (HST.out.later HB16.out).kids.drew HT2.out hlt HNBD.out (fun x hx => HBU.out.size_id HK.out x ((HT.out.mem i hlt x).1 hx).1 ((HT.out.mem i hlt x).1 hx).2.1) (by have := kids_len HT.out hlt; omega)).mono ?_
                rintro e w17 ⟨v17, D17, rfl, hl17, hd17, ho17, hb17⟩
                obtain ⟨ad17, c17, rfl⟩ := ho17.slice
                have hb17' : Below w16.heap.size w16 w17 := below_of_drew hb17
                have hs17 := hb17'.size
                have hS17 : w17.cell? ⟨wr.heap.size, 11, none⟩ = some (.int .u32 (ex i)) := (hb17'.cell (p := ⟨wr.heap.size, 11, none⟩) (by show wr.heap.size < _; omega)).trans c11
                refine ⟨_, rfl, hS17, ?_⟩
                try simp only [Act.put, List.setIfInBounds_toArray, List.set_cons_zero, List.set_cons_succ]
                refine wpAnyH_all (rs := [8]) (by kernel_rfl) (by simp) (rows1 ?_)
                refine hCall (f := 26) (args := #[.int .u32 (ex i), .slice ad17 2048 c17, .pointer (some ⟨w0.heap.size + 1, 0, none⟩)]) (some 206) rfl rfl rfl (by go_simp) ?_
                have hpb17 : PB w0 w17 L D := (HPD.out.later (HF16.out.below.trans (hb17'.mono (by omega))))
                refine (hpb17.put (ex i) (ex i).toNat 2048 c17 ad17 HEX.out (SrcB.of_own ho17).1 hl17 (by have := HIN.out.1; rw [HSZ.out] at this; exact this) (by omega)).mono ?_
                rintro e w18 ⟨rfl, hp18, hk18⟩
                refine ⟨_, rfl, (World.cell?_of_block (hk18 wr.heap.size (by omega) (by omega))).trans hS17, ?_⟩
                try simp only [Act.put, List.setIfInBounds_toArray, List.set_cons_zero, List.set_cons_succ]
                refine wpAnyH_done (by kernel_rfl) ?_ _
                refine NoPanic.normal ?_
                have himg := HIM.out.put HNUM.out hlt (S := D17) (by rw [HSZ.out, hl17]; rfl) (fun _ => hd17) (fun h => by have h2 : (nd i).f.dir = false := h; rw [HDIR.out] at h2; cases h2)
                have HP18 := Lib.hid hp18
                have HI18 := Lib.hid himg
                clear hp18 himg hk18 hpb17 hS17 hb17' hb17 ho17 hd17 hl17 hS0 c11
                go_wp2
                go_roundw
                case rel => exact ⟨i + 1, _, by omega, by go_num, HP18.out, HI18.out⟩
                case measure => simp [intOf]; omega
              | false =>
                rw [hdir] at c1
                have HDIR := Lib.hid hdir
                clear hdir
                have hsz : sizeOfN (wes nd num ex sz) i = ((nd i).f.data.size : Int) := by show (if (nd i).f.dir then _ else _) = _; rw [HDIR.out]; rfl
                have HSZ := Lib.hid hsz
                clear hsz
                have hds := HBU.out.size_data HK.out i hlt
                obtain ⟨ad17, c17, w17, hcv, hsrc, hb17⟩ := run_bytes_own (nd i).f.data w16 (by omega)
                have hpb17 : PB w0 w17 L D := (HPD.out.later (HF16.out.below.trans (hb17.mono (by omega))))
                have HPB17 := Lib.hid hpb17
                have HSRC := Lib.hid hsrc
                clear hpb17 hsrc hb17
                go_wp2_with (first
                  | (go_at_call 26
                     refine (HPB17.out.put (ex i) (ex i).toNat (nd i).f.data.size _ _ HEX.out HSRC.out rfl (by have := HIN.out.1; rw [HSZ.out] at this; exact this) (by omega)).mono ?_
                     rintro e w18 ⟨rfl, hp18, _⟩
                     have HP18 := Lib.hid hp18
                     clear hp18))
                have himg := HIM.out.put HNUM.out hlt (S := (nd i).f.data.data.toList) (by rw [HSZ.out]; rfl) (fun h => by have h2 : (nd i).f.dir = true := h; rw [HDIR.out] at h2; cases h2) (fun _ => rfl)
                have HI18 := Lib.hid himg
                clear himg
                go_roundw
                case rel => exact ⟨i + 1, _, by omega, by go_num, HP18.out, HI18.out⟩
                case measure => simp [intOf]; omega
            · obtain rfl : i = fs.length + 1 := by omega
              have HPBE := HPD
              have HIME := HIM
              clear HPD HIM
              go_wp2
              go_loopw [218] (fun iv wq => ∃ (i : Nat), i ≤ fs.length + 1 ∧ iv = .int .i64 i ∧ PB w0 wq L D) (fun iv _ => fs.length + 1 - (intOf iv).toNat)
              case atStart => exact ⟨0, Nat.zero_le _, rfl, HPBE.out⟩
              case round =>
                clear HPBE
                obtain ⟨i, hi, rfl, hpb⟩ := hrel
                have HPD := Lib.hid hpb
                clear hpb
                by_cases hlt : i < fs.length + 1
                · have hiz : (i : Int) < (fs.length : Int) + 1 := by omega
                  have hrow := (HST.out.later HPD.out.below).row hlt
                  have HROW2 := Lib.hid hrow
                  have hone := ncells_one (wes nd num ex sz i) (kv i) (HST.out.kids.own i hlt).one
                  have HONE := Lib.hid hone
                  clear hrow hone
                  have hwl := HPD.out.lt
                  go_upto_region 50 with (first
                    | (refine wpList_load_mid rfl 61 (.tmp 221) rfl g (i * 18) rfl (ncells (wes nd num ex sz i) (kv i)) _ HROW2.out Tryz.underlying61 rfl rfl ?_)
                    | (refine wpList_store_fresh rfl 61 (.tmp 25) (.tmp 222) rfl _ 61 (ncells (wes nd num ex sz i) (kv i)).toArray rfl rfl rfl rfl HONE.out ?_
                       intro w16 hF
                       have c14 : w16.cell? ⟨wr.heap.size, 14, none⟩ = some (.slice none 0 0) := hF.range 14 _ rfl
                       have HP16 := Lib.hid (HPD.out.later hF.below)
                       clear hF))
                  go_wp2
                  all_goals
                    go_roundw
                    case rel =>
                      repeat apply Exists.intro
                      exact ⟨⟨i + 1, by omega, by go_num, HP16.out⟩, rfl⟩
                    case measure => simp [intOf]; omega
                · have hpo := HPD.out.po
                  have HPE := HPD
                  clear HPD
                  go_wp2
                  go_ret2
                  exact ⟨w0.heap.size, L, D, rfl, HPE.out.img, HPE.out.len, hIw, ⟨wes nd num ex sz, ks, ds, P, 18 + bp, 18 + bp + bp, nx, ⟨⟨HBU.out.root.1, HBU.out.root.2.2⟩, HBU.out.node⟩, HT2.out, ⟨HDO.out.nodup, HDO.out.head, HDO.out.mem, HDO.out.num⟩, HPL.out.symm, HNUM.out, HIME.out⟩, HST.out.below.trans (HPE.out.below.mono hIw)⟩

end Go.Proofs.YtfppgplboomdbaaGreatDoor
