/- Part of the proofs of laws.FnIsoTree and laws.FnIsoAt: lemmas and contracts of functions that the two laws reach, each under the hypotheses that its own statement names. -/
import Derived.Test.YtfppgplboomdbaaGreatDoorProg
import Derived.WalkKit
import Derived.WalkSpells
import Derived.WalkLawsBesides
import Derived.Lib.Endian
import Derived.Lib.EndianBits
import Derived.Deep.QuietTactic
import Derived.BigQuiet
import Derived.RegionTactic
import Derived.Laws.CopyOwn
import Derived.WalkSmall
import Derived.Lib.Strings
import Derived.Lib.Hide
import Derived.Deep.RegionLaw
import Derived.Lib.AppendStr
/- Base words of the proofs over the ISO seat: bytes as lists of UInt8, small lemmas, the contracts of the smallest functions of package spec. -/
namespace Go.Proofs.YtfppgplboomdbaaGreatDoor
open Go.RowKit

abbrev Bs := List UInt8
/-- Bytes as cells. -/
def bcs (l : Bs) : List Value := l.map fun b => Value.int .u8 (b.toNat : Int)
theorem bcs_length (l : Bs) : (bcs l).length = l.length := by simp [bcs]
theorem bcs_append (a b : Bs) : bcs (a ++ b) = bcs a ++ bcs b := by simp [bcs]
theorem bcs_get (l : Bs) (i : Nat) : (bcs l)[i]? = (l[i]?).map fun b => Value.int .u8 (b.toNat : Int) := by simp [bcs]
/-- The byte of a number. -/
def by8 (n : Int) : UInt8 := UInt8.ofNat (n % 256).toNat
theorem by8_toNat (n : Int) : ((by8 n).toNat : Int) = n % 256 := by
  have h : (n % 256).toNat < 256 := by omega
  simp only [by8, UInt8.toNat_ofNat']
  omega
theorem bcell (n : Int) : Value.int .u8 (n % 256) = Value.int .u8 ((by8 n).toNat : Int) := by rw [by8_toNat]
theorem bcell_of (n : Int) (h0 : 0 ≤ n) (h1 : n < 256) : Value.int .u8 n = Value.int .u8 ((by8 n).toNat : Int) := by rw [by8_toNat]; congr 1; omega
theorem below_cells {W w1 : World} (hb : Below W.heap.size W w1) : (∀ b o, b < W.heap.size → w1.cell? ⟨b, o, none⟩ = W.cell? ⟨b, o, none⟩) ∧ (∀ b o, b < W.heap.size → w1.frozen? ⟨b, o, none⟩ = W.frozen? ⟨b, o, none⟩) :=
  ⟨fun b o h => hb.cell (p := ⟨b, o, none⟩) h, fun b o h => hb.frozen (p := ⟨b, o, none⟩) h⟩
theorem ret_int {k : IntKind} {a b : Int} (h : a = b) : Ending.returned (.int k a) = .returned (.int k b) := by rw [h]

theorem ret2 {a b c d : Value} (h1 : a = c) (h2 : b = d) : Ending.returned (.tuple #[a, b]) = .returned (.tuple #[c, d]) := by rw [h1, h2]
theorem ret_str {a b : ByteArray} (h : a = b) : Value.string a = .string b := by rw [h]
theorem bstr (s : ByteArray) : (⟨s.data.toList.toArray⟩ : ByteArray) = s := by simp
theorem bs_ext {a : ByteArray} {l : Bs} (h : a.data.toList = l) : a = ⟨l.toArray⟩ := by subst h; simp

theorem ext_data (s : ByteArray) (a b : Nat) : (s.extract a b).data.toList = (s.data.toList.take b).drop a := by
  rw [ByteArray.data_extract, Array.toList_extract]; simp [List.drop_take]
theorem byte_eq {c : UInt8} {n : Nat} (hn : n < 256) (h : ((c.toNat : Int) == (n : Int)) = true) : c = UInt8.ofNat n := by
  have : (c.toNat : Int) = n := by simpa using h
  apply UInt8.toNat_inj.1
  rw [UInt8.toNat_ofNat']
  omega
theorem bget (s : ByteArray) (k : Nat) (h : k < s.size) : s.data.toList[k]? = some s[k] := by rw [List.getElem?_eq_getElem (by simpa using h)]; rfl

theorem both32_any (n : Int) (h0 : 0 ≤ n) (h1 : n ≤ 4294967295) (w : World) :
    Calls Tryz.prog 46 #[.int .u32 n] w fun e w' => e = .returned (.slice (some ⟨w.heap.size, 0, none⟩) 8 8) ∧
      w' = w.alloc (.cells (bcs [by8 n, by8 (n / 256), by8 (n / 65536), by8 (n / 16777216), by8 (n / 16777216), by8 (n / 65536), by8 (n / 256), by8 n]).toArray 5) := by
  go_enter Tryz.func46, Tryz.ntmps46
  go_wp2
  go_ret
  refine ⟨rfl, ?_⟩
  simp only [bcs, List.map, by8_toNat]
  congr 1
  have : n / 16777216 % 256 = n / 16777216 := by omega
  rw [this]

theorem both16_any (n : Int) (h0 : 0 ≤ n) (h1 : n ≤ 65535) (w : World) :
    Calls Tryz.prog 47 #[.int .u16 n] w fun e w' => e = .returned (.slice (some ⟨w.heap.size, 0, none⟩) 4 4) ∧
      w' = w.alloc (.cells (bcs [by8 n, by8 (n / 256), by8 (n / 256), by8 n]).toArray 5) := by
  go_enter Tryz.func47, Tryz.ntmps47
  go_wp2
  go_ret
  refine ⟨rfl, ?_⟩
  simp only [bcs, List.map, by8_toNat]
  congr 1
  have : n / 256 % 256 = n / 256 := by omega
  rw [this]

theorem blocksOf_any (n : Int) (h0 : 0 ≤ n) (h1 : n ≤ 1000000000) (w : World) :
    Calls Tryz.prog 24 #[.int .i64 n] w fun e w' => e = .returned (.int .u32 ((n + 2047) / 2048)) ∧ w = w' := by
  go_enter Tryz.func24, Tryz.ntmps24
  go_wp2
  go_ret
  exact ⟨ret_int (by omega), rfl⟩

theorem civil_any (d : Int) (w : World) :
    Calls Tryz.prog 78 #[.int .i64 d] w fun e w' => (∃ y m k : Int, e = .returned (.tuple #[.int .i64 y, .int .i64 m, .int .i64 k])) ∧ w = w' := by
  go_enter Tryz.func78, Tryz.ntmps78
  go_wp2
  all_goals (go_ret3; exact ⟨⟨_, _, _, rfl⟩, rfl⟩)

end Go.Proofs.YtfppgplboomdbaaGreatDoor

namespace Go.Proofs.YtfppgplboomdbaaGreatDoor
open Go.RowKit

set_option maxHeartbeats 1000000 in
theorem isoTime_any (t : Int) (w : World) :
    Calls Tryz.prog 60 #[.int .i64 t] w fun e w' => e = .returned (.slice (some ⟨w.heap.size, 0, none⟩) 7 7) ∧
      ∃ bs : Bs, bs.length = 7 ∧ w' = w.alloc (.cells (bcs bs).toArray 5) := by
  go_enter Tryz.func60, Tryz.ntmps60
  go_wp2_with (go_at_call 78; refine (civil_any _ _).mono ?_; rintro e w' ⟨⟨y, m, k, rfl⟩, rfl⟩)
  all_goals go_ret
  all_goals exact ⟨rfl, [by8 _, by8 _, by8 _, by8 _, by8 _, by8 _, 0], rfl, by simp only [bcs, List.map, by8_toNat]; rfl⟩

/-- What stands ahead of a path's last slash, and behind it. -/
def baseAt (l : Bs) : Nat → Bs × Bs
  | 0 => ([], l)
  | k + 1 => if l[k]? = some 47 then (l.take k, l.drop (k + 1)) else baseAt l k
def baseL (l : Bs) : Bs × Bs := baseAt l l.length

set_option maxHeartbeats 1000000 in
theorem base_any (s : ByteArray) (w : World) (hs : s.size ≤ 1000000) :
    Calls Tryz.prog 32 #[.string s] w fun e w' => e = .returned (.tuple #[.string ⟨(baseL s.data.toList).1.toArray⟩, .string ⟨(baseL s.data.toList).2.toArray⟩]) ∧ Below w.heap.size w w' := by
  go_enter Tryz.func32, Tryz.ntmps32
  go_wp2
  go_loop [4] (fun i => ∃ m : Int, -1 ≤ m ∧ m < s.size ∧ i = .int .i64 m ∧ baseL s.data.toList = baseAt s.data.toList (m + 1).toNat) (fun i => (intOf i + 1).toNat)
  case atStart => exact ⟨(s.size : Int) - 1, by omega, by omega, rfl, by simp [baseL]⟩
  case round =>
    obtain ⟨m, hm0, hm1, rfl, hb⟩ := hrel
    by_cases hm : m < 0
    · have hm : m = -1 := by omega
      subst hm
      have HB : Hid (baseL s.data.toList = ([], s.data.toList)) := by rw [Hid, hb]; rfl
      clear hb
      go_wp2
      go_ret2
      refine ⟨?_, Below.refl _ _⟩
      rw [HB.out]
      exact ret2 rfl (ret_str (bstr s).symm)
    · obtain ⟨k, rfl⟩ : ∃ k : Nat, m = k := ⟨m.toNat, by omega⟩
      have hk : k < s.size := by omega
      have HB : Hid (baseL s.data.toList = baseAt s.data.toList (k + 1)) := by rw [Hid, hb]; congr 1
      clear hb
      have hg : s.data.toList[k]? = some s[k] := by rw [List.getElem?_eq_getElem (by simpa using hk)]; rfl
      by_cases h : ((s[k].toNat : Int) == 47) = true
      · go_wp2
        go_quiet (fail)
        go_wp2
        go_ret2
        rw [HB.out, baseAt, if_pos (by rw [hg, byte_eq (n := 47) (by omega) h]; rfl)]
        refine ⟨ret2 (ret_str (bs_ext ?_)) (ret_str (bs_ext ?_)), below_drewN (Below.refl _ _) _⟩
        · rw [ext_data]; simp
        · rw [ext_data, List.take_of_length_le (by simp)]
      · have h' : ((s[k].toNat : Int) == 47) = false := by simpa using h
        go_wp2
        go_round
        case rel =>
          refine ⟨(k : Int) - 1, by omega, by omega, rfl, ?_⟩
          have e : ((k : Int) - 1 + 1).toNat = k := by omega
          rw [e, HB.out, baseAt, if_neg]
          rw [hg]; intro h2; apply h
          have := Option.some.inj h2
          rw [this]; rfl
        case measure => simp [intOf]

end Go.Proofs.YtfppgplboomdbaaGreatDoor

namespace Go.Proofs.YtfppgplboomdbaaGreatDoor
open Go.RowKit

/-- The first place of a byte. -/
def Idx (l : Bs) (c : UInt8) (r : Int) : Prop := (r = -1 ∧ ∀ j : Nat, l[j]? ≠ some c) ∨ ∃ i : Nat, r = i ∧ l[i]? = some c ∧ ∀ j, j < i → l[j]? ≠ some c

theorem one_eq {s : ByteArray} {c : UInt8} {i : Nat} {b : Bool} (h : i < s.size) (hb : ((s.extract i (i + 1)).toList == [c]) = b) : (s.data.toList[i]? = some c) = (b = true) := by
  have h2 : (s.extract i (i + 1)).toList = [s.data.toList[i]'h] := by
    rw [Lib.extract_toList]
    have e : i + 1 - i = 1 := by omega
    rw [e, List.drop_eq_getElem_cons h]; rfl
  rw [h2] at hb
  rw [List.getElem?_eq_getElem h, ← hb]
  simp
set_option maxHeartbeats 1000000 in
theorem zzIndex_any (s : ByteArray) (c : UInt8) (w : World) (hs : s.size ≤ 1000000) :
    Calls Tryz.prog 154 #[.string s, .string ⟨#[c]⟩] w fun e w' => (∃ r : Int, e = .returned (.int .i64 r) ∧ Idx s.data.toList c r) ∧ w' = w := by
  go_enter Tryz.func154, Tryz.ntmps154
  go_wp2
  go_loopw [5] (fun iv wr => ∃ i : Nat, iv = .int .i64 i ∧ i ≤ s.size ∧ (∀ j, j < i → s.data.toList[j]? ≠ some c) ∧ wr = w) (fun iv _ => s.size - (intOf iv).toNat)
  case atStart => exact ⟨0, rfl, Nat.zero_le _, fun j h => by omega, rfl⟩
  case round =>
    obtain ⟨i, rfl, hi, hno, rfl⟩ := hrel
    have HNO := Lib.hid hno
    clear hno
    by_cases hlt : i < s.size
    · go_wp2
      · rename_i h1 h2
        have h3 := one_eq hlt h2
        go_ret
        exact ⟨⟨_, rfl, .inr ⟨i, rfl, by rw [h3], HNO.out⟩⟩, rfl⟩
      · rename_i h1 h2
        have h3 := one_eq hlt h2
        refine ⟨⟨i + 1, by simp, by omega, fun j hj he => ?_, trivial⟩, by simp [intOf]; omega⟩
        by_cases e : j = i
        · subst e; rw [h3] at he; cases he
        · exact HNO.out j (by omega) he
    · go_wp2
      go_ret
      show (∃ r : Int, _ ∧ _) ∧ _
      refine ⟨⟨_, rfl, .inl ⟨rfl, fun j he => ?_⟩⟩, rfl⟩
      by_cases e : j < i
      · exact HNO.out j e he
      · have : j < s.data.toList.length := (List.getElem?_eq_some_iff.1 he).1
        have h2 : s.data.toList.length = s.size := rfl
        omega

end Go.Proofs.YtfppgplboomdbaaGreatDoor

namespace Go.Proofs.YtfppgplboomdbaaGreatDoor
open Go.RowKit

/-- A slice value that owns the cells xs (n elements of sz cells each), told by cells alone; it lies in a block from B on. -/
def OwnS (w : World) (B sz : Nat) (v : Value) (n : Nat) (xs : List Value) : Prop :=
  xs.length = n * sz ∧ ((v = .slice none 0 0 ∧ n = 0) ∨ ∃ g cap, v = .slice (some ⟨g, 0, none⟩) n cap ∧ B ≤ g ∧ g < w.heap.size ∧ n ≤ cap ∧ cap ≤ maxLen ∧
    (∀ j u, xs[j]? = some u → w.cell? ⟨g, j, none⟩ = some u) ∧ ∀ j, j < cap * sz → (w.cell? ⟨g, j, none⟩).isSome = true ∧ w.frozen? ⟨g, j, none⟩ = false)
theorem OwnS.nil (w : World) (B sz : Nat) : OwnS w B sz (.slice none 0 0) 0 [] := ⟨by simp, .inl ⟨rfl, rfl⟩⟩
theorem OwnS.mono {w : World} {B B' sz n : Nat} {v : Value} {xs : List Value} (h : OwnS w B sz v n xs) (hB : B' ≤ B) : OwnS w B' sz v n xs := by
  obtain ⟨h1, h2 | ⟨g, cap, e, hg, r⟩⟩ := h
  · exact ⟨h1, .inl h2⟩
  · exact ⟨h1, .inr ⟨g, cap, e, by omega, r⟩⟩
theorem OwnS.of_row {w : World} {B E sz n : Nat} {v : Value} {xs : List Value} (h : w.ownsRow B E sz v n xs) : OwnS w B sz v n xs := by
  obtain ⟨h1, h2⟩ := h
  refine ⟨h1, ?_⟩
  rcases h2 with h2 | ⟨g, cap, cur, rfl, hg, hh, hn, hc, hs, ht⟩
  · exact .inl h2
  · refine .inr ⟨g, cap, rfl, hg, lt_of_block hh, hn, hc, fun j u hu => ?_, fun j hj2 => ?_⟩
    · have hj : j < n * sz := by rw [← h1]; exact (List.getElem?_eq_some_iff.1 hu).1
      simp only [World.cell?, hh]
      rw [← ht, List.getElem?_take_of_lt hj] at hu
      simpa using hu
    · have : j < cur.size := by omega
      simp [World.cell?, World.frozen?, hh, this]
theorem OwnS.kept {w w' : World} {B sz n : Nat} {v : Value} {xs : List Value} (h : OwnS w B sz v n xs) (hb : ∀ g, v.ownBlock = some g → w'.heap[g]? = w.heap[g]?) (hsz : w.heap.size ≤ w'.heap.size) : OwnS w' B sz v n xs := by
  obtain ⟨h1, h2 | ⟨g, cap, rfl, hg, hl, hn, hc, hx, hs⟩⟩ := h
  · exact ⟨h1, .inl h2⟩
  · have e := hb g rfl
    refine ⟨h1, .inr ⟨g, cap, rfl, hg, by omega, hn, hc, fun j u hu => ?_, fun j b => ?_⟩⟩
    · rw [World.cell?_of_block (w := w) (a := ⟨g, j, none⟩) e]; exact hx j u hu
    · rw [World.cell?_of_block (w := w) (a := ⟨g, j, none⟩) e, World.frozen?_of_block (w := w) (a := ⟨g, j, none⟩) e]; exact hs j b
theorem OwnS.below {w w' : World} {B sz n : Nat} {v : Value} {xs : List Value} (h : OwnS w B sz v n xs) (hb : Below w.heap.size w w') : OwnS w' B sz v n xs := by
  refine h.kept (fun g hg => ?_) hb.size
  obtain ⟨h1, h2 | ⟨g', cap, rfl, _, hl, _⟩⟩ := h
  · rw [h2.1] at hg; simp [Value.ownBlock] at hg
  · simp [Value.ownBlock] at hg; subst hg; exact hb.block _ hl
theorem setCells_block (g : Nat) : ∀ (vs : List Value) (o : Nat) (w : World) (k : Nat), k ≠ g → (w.setCells g o vs).heap[k]? = w.heap[k]?
  | [], _, _, _, _ => rfl
  | v :: vs, o, w, k, h => by
    simp only [World.setCells]
    rw [setCells_block g vs _ _ k h, Below.heap_setCell _ _ _ _ (by simpa using h)]
theorem setCells_size (g : Nat) : ∀ (vs : List Value) (o : Nat) (w : World), (w.setCells g o vs).heap.size = w.heap.size
  | [], _, _ => rfl
  | v :: vs, o, w => by simp only [World.setCells]; rw [setCells_size g vs]; simp [World.setCell]
theorem setCells_rest (g : Nat) : ∀ (vs : List Value) (o : Nat) (w : World), (w.setCells g o vs).os = w.os ∧ (w.setCells g o vs).tape = w.tape ∧ (w.setCells g o vs).output = w.output
  | [], _, _ => ⟨rfl, rfl, rfl⟩
  | v :: vs, o, w => by simp only [World.setCells]; exact setCells_rest g vs _ _
/-- append onto an owned slice: a law for the walk. -/
theorem wpList_append_ownS {P : Program} {w : World} {ops : Array Oper} {rest : List Oper} {o : Oper} {a : Act} {Q : Exit → Act → World → Prop}
    (hg : o.guard = none) (s x : Operand) (t : TypeId) (hop : o.op = Op.call { callee := Callee.builtin Builtin.append, args := #[s, x], argTypes := #[t, t] })
    (B : Nat) (e : TypeId) (i : TypeInfo) (z : Value) (size bytes : Nat) (h1 : P.underlying t = some (.slice e)) (h2 : P.info? e = some i) (h3 : i.zero = some z) (h4 : i.size = size) (h5 : i.bytes = bytes) (h6 : z.cells.size = size) (h7 : 0 < size)
    (v : Value) (n : Nat) (xs : List Value) (hs : a.eval s = v) (hown : OwnS w B size v n xs)
    (ad : Addr) (m c : Nat) (news : List Value) (hx : a.eval x = .slice (some ad) m c) (hn : news.length = m * size) (hc : ∀ j u, news[j]? = some u → w.cell? (ad.add j) = some u) (h1c : ∀ u ∈ news, u.oneCell' = true) (hm : 0 < m)
    (b1 : n + m ≤ maxLen) (b2 : (n + m) * bytes ≤ 140737488355328) (hB : B ≤ w.heap.size)
    (hK : ∀ v' w', OwnS w' B size v' (n + m) (xs ++ news) → Below B w w' → w.heap.size ≤ w'.heap.size → (∀ k, k < w.heap.size → v.ownBlock ≠ some k → w'.heap[k]? = w.heap[k]?) → (∀ k, v'.ownBlock = some k → v.ownBlock = some k ∨ w.heap.size ≤ k) → wpList P ops Q rest (a.put o.dst v') w') :
    wpList P ops Q (o :: rest) a w := by
  have grown : ∀ v' w', w'.ownsRow w.heap.size e size v' (n + m) (xs ++ news) → w.grownBy w' none → wpList P ops Q rest (a.put o.dst v') w' := fun v' w' ho hg => by
    refine hK v' w' ((OwnS.of_row ho).mono hB) ⟨hg.os, hg.tape, hg.output, hg.size, fun k hk => hg.block k (by omega) (by simp)⟩ hg.size (fun k hk _ => hg.block k hk (by simp)) (fun k hk => .inr ?_)
    exact (ho.lt k hk).1
  obtain ⟨hl, ⟨rfl, rfl⟩ | ⟨g, cap, rfl, hgB, hlt, hnc, hcm, hcell, hspare⟩⟩ := hown
  · exact wpList_append_grows w hg s x t hop e i z size bytes h1 h2 h3 h4 h5 h6 h7 none 0 0 xs hs (fun _ => ⟨rfl, rfl⟩) hl (fun b hb => by cases hb) ad m c news hx hn hc h1c (by omega) b1 b2 grown
  · refine wpList_append_arg w hg s x t hop e i z size bytes h1 h2 h3 h4 h5 h6 h7 g 0 n cap xs hs hl (fun j u hu => by rw [Nat.zero_add]; exact hcell j u hu) ad m c news hx hn hc h1c ?_ b1 b2 ?_ (fun _ => grown)
    · intro hr j hj
      rw [Nat.zero_add]
      refine hspare _ ?_
      have : (n + m) * size ≤ cap * size := Nat.mul_le_mul_right _ hr
      rw [Nat.add_mul] at this; omega
    · intro hr
      rw [Nat.zero_add]
      have hle : (n + m) * size ≤ cap * size := Nat.mul_le_mul_right _ hr
      have hnm : (n + m) * size = n * size + m * size := Nat.add_mul _ _ _
      have hin : ∀ j, j < news.length → (w.cell? ⟨g, n * size + j, none⟩).isSome = true := fun j hj => (hspare _ (by omega)).1
      refine hK _ _ ⟨by simp [hl, hn, Nat.add_mul], .inr ⟨g, cap, rfl, hgB, by rw [setCells_size]; exact hlt, hr, hcm, fun j u hu => ?_, fun j hb => ?_⟩⟩ ⟨(setCells_rest _ _ _ _).1, (setCells_rest _ _ _ _).2.1, (setCells_rest _ _ _ _).2.2, by rw [setCells_size]; exact Nat.le_refl _, fun k hk => setCells_block _ _ _ _ _ (by omega)⟩ (by rw [setCells_size]; exact Nat.le_refl _) (fun k hk hne => setCells_block _ _ _ _ _ (fun e => hne (by simp [Value.ownBlock, e]))) (fun k hk => .inl hk)
      · by_cases hj : j < xs.length
        · rw [List.getElem?_append_left hj] at hu
          rw [World.cell?_setCells_out _ _ _ _ _ (fun _ _ => .inl (by show j < n * size; omega))]
          exact hcell j u hu
        · rw [List.getElem?_append_right (by omega)] at hu
          obtain ⟨hj2, hu2⟩ := List.getElem?_eq_some_iff.1 hu
          have := World.cell?_setCells_in g news (n * size) w hin (j - xs.length) hj2
          rw [hu2] at this
          have e : n * size + (j - xs.length) = j := by omega
          rw [e] at this; exact this
      · rw [World.frozen?_setCells]
        refine ⟨?_, (hspare j hb).2⟩
        by_cases hj1 : j < n * size
        · rw [World.cell?_setCells_out _ _ _ _ _ (fun _ _ => .inl (by show j < n * size; omega))]
          exact (hspare j hb).1
        · by_cases hj2 : j < n * size + news.length
          · have := World.cell?_setCells_in g news (n * size) w hin (j - n * size) (by omega)
            have e : n * size + (j - n * size) = j := by omega
            rw [e] at this; rw [this]; rfl
          · rw [World.cell?_setCells_out _ _ _ _ _ (fun _ _ => .inr (by show n * size + news.length ≤ j; omega))]
            exact (hspare j hb).1

theorem Tryz.info5 : (Tryz.prog.info? 5).map (fun i => (i.zero, i.size, i.bytes)) = some (some (.int .u8 0), 1, 1) := by kernel_rfl

def lenV : Value → Nat | .slice _ n _ => n | _ => 0
theorem OwnS.slice {w : World} {B sz n : Nat} {v : Value} {xs : List Value} (h : OwnS w B sz v n xs) : ∃ ad cap, v = .slice ad n cap := by
  obtain ⟨_, ⟨rfl, rfl⟩ | ⟨g, cap, rfl, _⟩⟩ := h
  · exact ⟨none, 0, rfl⟩
  · exact ⟨_, _, rfl⟩
theorem OwnS.alloc {w : World} {B sz n : Nat} {v : Value} {xs : List Value} (h : OwnS w B sz v n xs) (o : Obj) : OwnS (w.alloc o) B sz v n xs := h.below ((Below.refl _ _).alloc (Nat.le_refl _) _)
theorem one_at (w : World) (x : Value) (E : TypeId) : ∀ j u, [x][j]? = some u → (w.alloc (.cells #[x] E)).cell? ((⟨w.heap.size, 0, none⟩ : Addr).add j) = some u := by
  intro j u hu
  cases j with
  | zero =>
    simp at hu; subst hu
    have h := heap_alloc_new w (.cells #[x] E)
    have e : (⟨w.heap.size, 0, none⟩ : Addr).add 0 = ⟨w.heap.size, 0, none⟩ := rfl
    rw [e]; simp only [World.cell?, h]; rfl
  | succ j => simp at hu

/-- '[]byte(s)' as an owned slice. -/
theorem ownS_bytes (s : ByteArray) (w : World) (c : Nat) (hc : s.size ≤ c) (hm : c ≤ maxLen) :
    OwnS (w.drew.alloc (.cells (bytesRow s c) 5 ((bytesRow s c).size, (bytesRow s c).size + 1))) w.heap.size 1 (.slice (some ⟨w.heap.size, 0, none⟩) s.size c) s.size (bcs s.data.toList) := by
  have hsz : (bytesRow s c).size = c := by simp [bytesRow]; have : s.data.size = s.size := rfl; omega
  refine ⟨by rw [bcs_length]; simp, .inr ⟨w.heap.size, c, rfl, Nat.le_refl _, by simp, hc, hm, fun j u hu => ?_, fun j hb => ?_⟩⟩
  · have h := heap_alloc_new w.drew (.cells (bytesRow s c) 5 ((bytesRow s c).size, (bytesRow s c).size + 1))
    have h' : (w.drew.alloc (.cells (bytesRow s c) 5 ((bytesRow s c).size, (bytesRow s c).size + 1))).heap[w.heap.size]? = _ := h
    simp only [World.cell?, h']
    rw [bcs_get] at hu
    obtain ⟨b, hb, rfl⟩ := Option.map_eq_some_iff.1 hu
    obtain ⟨hj, hb2⟩ := List.getElem?_eq_some_iff.1 hb
    have hj' : j < s.data.size := by simpa using hj
    have hj2 : j < s.size := hj'
    simp [bytesRow, Array.getElem?_append, hj2, ← hb2]
  · have h := heap_alloc_new w.drew (.cells (bytesRow s c) 5 ((bytesRow s c).size, (bytesRow s c).size + 1))
    have h' : (w.drew.alloc (.cells (bytesRow s c) 5 ((bytesRow s c).size, (bytesRow s c).size + 1))).heap[w.heap.size]? = _ := h
    have hj : j < (bytesRow s c).size := by omega
    simp only [World.cell?, World.frozen?, h']
    simp [hj]
    omega

theorem ext_all (s : ByteArray) (k : Nat) (h : s.size ≤ k) : s.extract 0 k = s := by
  apply ByteArray.ext
  rw [ByteArray.data_extract]
  exact Array.extract_eq_self_of_le h

set_option maxHeartbeats 1000000 in
set_option maxRecDepth 100000 in
theorem padded_any (s : ByteArray) (n : Nat) (w : World) (hs : s.size ≤ n) (hn : n ≤ 1000000) :
    Calls Tryz.prog 45 #[.string s, .int .i64 n] w fun e w' => ∃ v, e = .returned v ∧ OwnS w' w.heap.size 1 v n (bcs (s.data.toList ++ List.replicate (n - s.size) 32)) ∧ Below w.heap.size w w' := by
  have hcv := fun (s : ByteArray) (w : World) => run_bytes_of_string (P := Tryz.prog) w 9 26 5 s Tryz.underlying9 Tryz.underlying26 Tryz.underlying5
  obtain ⟨i5, hi, hz0, hz1, hz2⟩ := info_parts Tryz.info5
  have hcg := grownCap_ge w s.size 0 5
  have hcm := grownCap_le_maxLen w s.size 0 5 (by unfold maxLen; omega)
  have HO := Lib.hid (ownS_bytes s w (grownCap w s.size 0 5) hcg hcm)
  have hse := ext_all s s.size (Nat.le_refl _)
  go_enter Tryz.func45, Tryz.ntmps45
  go_wp2
  go_loopw [5] (fun v wr => ∃ (m : Nat) (ad : Option Addr) (cap : Nat), s.size ≤ m ∧ m ≤ n ∧ v = .slice ad m cap ∧ OwnS wr w.heap.size 1 v m (bcs (s.data.toList ++ List.replicate (m - s.size) 32)) ∧ Below w.heap.size w wr) (fun v _ => n - lenV v)
  case atStart => exact ⟨s.size, _, _, Nat.le_refl _, hs, rfl, by rw [Nat.sub_self]; simp only [List.replicate, List.append_nil]; exact HO.out, ((Below.refl _ _).alloc (Nat.le_refl _) _).drew⟩
  case round =>
    obtain ⟨m, ad, cap, h1, h2, rfl, hown, hbel⟩ := hrel
    have hws := hbel.size
    have HO2 := Lib.hid (hown.alloc (.cells #[.int .u8 32] 5))
    by_cases hlt : m < n
    · go_wp2_with (at_builtin; refine wpList_append_ownS rfl _ _ 26 rfl w.heap.size 5 i5 (.int .u8 0) 1 1 Tryz.underlying26 hi hz0 hz1 hz2 rfl (by decide) _ m _ rfl HO2.out ⟨wr.heap.size, 0, none⟩ 1 1 [.int .u8 32] rfl rfl (one_at _ _ _) (by intro u hu; simp at hu; subst hu; rfl) (by omega) (by unfold maxLen; omega) (by omega) (by simp; omega) ?_; intro v' w1 hown' hb1 hs1 hk1 hf1)
      obtain ⟨ad', cap', rfl⟩ := hown'.slice
      go_roundw
      case rel =>
        refine ⟨m + 1, ad', cap', by omega, by omega, rfl, ?_, hbel.trans (((Below.refl _ _).alloc hbel.size _).trans hb1)⟩
        have e : m + 1 - s.size = (m - s.size) + 1 := by omega
        rw [e, List.replicate_succ', ← List.append_assoc, bcs_append]
        exact hown'
      case measure => simp [lenV]; omega
    · obtain rfl : m = n := by omega
      go_wp2
      go_ret
      exact ⟨_, rfl, hown, hbel⟩

end Go.Proofs.YtfppgplboomdbaaGreatDoor

namespace Go.Proofs.YtfppgplboomdbaaGreatDoor
open Go.RowKit

/-- Block g holds just these bytes. -/
def Blk (w : World) (g : Nat) (D : Bs) : Prop := w.heap[g]? = some (.cells (bcs D).toArray 5 (0, 0))
theorem Blk.lt {w : World} {g : Nat} {D : Bs} (h : Blk w g D) : g < w.heap.size := lt_of_block h
theorem Blk.same {w w' : World} {g : Nat} {D : Bs} (h : Blk w g D) (e : w'.heap[g]? = w.heap[g]?) : Blk w' g D := e.trans h
theorem Blk.below {w w' : World} {g : Nat} {D : Bs} (h : Blk w g D) (hb : Below w.heap.size w w') : Blk w' g D := h.same (hb.block g h.lt)
theorem Blk.alloc {w : World} {g : Nat} {D : Bs} (h : Blk w g D) (o : Obj) : Blk (w.alloc o) g D := h.same (Below.heap_alloc w o g h.lt)
theorem Blk.drew {w : World} {g : Nat} {D : Bs} (h : Blk w g D) : Blk w.drew g D := h
theorem Blk.drewN {w : World} {g : Nat} {D : Bs} (h : Blk w g D) (n : Nat) : Blk (w.drewN n) g D := h
theorem Blk.new (w : World) (D : Bs) : Blk (w.alloc (.cells (bcs D).toArray 5)) w.heap.size D := heap_alloc_new w _
theorem Blk.cell {w : World} {g : Nat} {D : Bs} (h : Blk w g D) (j : Nat) : w.cell? ⟨g, j, none⟩ = (D[j]?).map fun b => Value.int .u8 (b.toNat : Int) := by
  simp only [Blk] at h
  simp only [World.cell?, h]
  simp [bcs]
theorem Blk.cell_of {w : World} {g : Nat} {D : Bs} (h : Blk w g D) (j : Nat) (hj : j < D.length) : w.cell? ⟨g, j, none⟩ = some (.int .u8 (D[j].toNat : Int)) := by
  rw [h.cell, List.getElem?_eq_getElem hj]; rfl
theorem Blk.free {w : World} {g : Nat} {D : Bs} (h : Blk w g D) (j : Nat) : w.frozen? ⟨g, j, none⟩ = false := by
  simp only [Blk] at h
  simp only [World.frozen?, h]
  simp
theorem Blk.store {w : World} {g : Nat} {D : Bs} (h : Blk w g D) (j : Nat) (b : UInt8) : Blk (w.setCell ⟨g, j, none⟩ (.int .u8 (b.toNat : Int))) g (D.set j b) := by
  have hl := h.lt
  have h' : w.heap[g] = .cells (bcs D).toArray 5 (0, 0) := (Array.getElem?_eq_some_iff.1 h).2
  show (w.heap.modify g _)[g]? = _
  rw [Array.getElem?_eq_getElem (by simpa using hl), Array.getElem_modify_self, h']
  simp only [bcs, List.map_set]
  simp
theorem oneCell_bcs (l : Bs) : ∀ u ∈ bcs l, u.oneCell' = true := by
  intro u hu
  simp only [bcs, List.mem_map] at hu
  obtain ⟨b, _, rfl⟩ := hu
  rfl
theorem splice_bcs (D S : Bs) (off : Nat) : splice (bcs D) off (bcs S) = bcs (splice D off S) := by simp [splice, bcs, List.map_take, List.map_drop]
/-- Only block g may have changed. -/
def Only (w w' : World) (g : Nat) : Prop := (∀ k, k ≠ g → w'.heap[k]? = w.heap[k]?) ∧ w'.heap.size = w.heap.size
/-- Bytes S lie at a slice's address. -/
def SrcB (w : World) (sp : Option Addr) (S : Bs) : Prop := 0 < S.length → ∃ sb so, sp = some ⟨sb, so, none⟩ ∧ ∀ j (h : j < S.length), w.cell? ⟨sb, so + j, none⟩ = some (.int .u8 (S[j].toNat : Int))
theorem SrcB.of_blk {w : World} {g : Nat} {D : Bs} (h : Blk w g D) : SrcB w (some ⟨g, 0, none⟩) D := fun _ => ⟨g, 0, rfl, fun j hj => by rw [Nat.zero_add]; exact h.cell_of j hj⟩
theorem SrcB.cells {w : World} {sp : Option Addr} {S : Bs} (h : SrcB w sp S) (hp : 0 < (bcs S).length) : ∃ ad, sp = some ad ∧ ∀ j v, (bcs S)[j]? = some v → w.cell? (ad.add j) = some v := by
  obtain ⟨sb, so, rfl, hc⟩ := h (by simpa [bcs] using hp)
  refine ⟨_, rfl, fun j v hv => ?_⟩
  rw [bcs_get] at hv
  obtain ⟨b, hb, rfl⟩ := Option.map_eq_some_iff.1 hv
  obtain ⟨hj, hb2⟩ := List.getElem?_eq_some_iff.1 hb
  rw [Addr.add_lit, hc j hj, hb2]

/-- copy of bytes into a block known whole: as a step of a drawn region. -/
theorem step_copy_bytes {P : Program} {ops : Array Oper} {o : Oper} {a : Act} {w : World} {K : Act → World → Prop} {Q : Exit → Act → World → Prop} {E : Prop} (hgd : o.guard = none) (d s : Operand) (dT sT : TypeId)
    (ho : o.op = .call { callee := .builtin .copy, args := #[d, s], argTypes := #[dT, sT] }) (hu : P.underlying dT = some (.slice 5)) (hsz : (P.info? 5).map (·.size) = some 1)
    (dp sp : Option Addr) (dLen dCap sLen sCap : Nat) (hd : a.eval d = .slice dp dLen dCap) (hs : a.eval s = .slice sp sLen sCap)
    (g off : Nat) (D S : Bs) (hg : Blk w g D) (hdp : dp = some ⟨g, off, none⟩) (hsrc : SrcB w sp S) (hn : S.length = Nat.min sLen dLen) (hfit : off + S.length ≤ D.length) (B : Nat) (w0 : World) (hb : Below B w0 w) (hBg : B ≤ g)
    (h : ∀ w', Blk w' g (splice D off S) → Below B w0 w' → Only w w' g → K (a.put o.dst (goInt S.length)) w') :
    if Region.wanted o (yielded ops a.tmps) = true then Oper.wp P o a w K Q else E := by
  have hw : Region.wanted o (yielded ops a.tmps) = true := by simp [Region.wanted, hgd]
  rw [if_pos hw]
  have hlen : (bcs S).length = S.length := bcs_length S
  by_cases h0 : S.length = 0
  · obtain rfl : S = [] := List.eq_nil_of_length_eq_zero h0
    have hrun := run_copy_none (P := P) w dT sT o.type 5 dp sp dLen dCap sLen sCap hu hsz (by simpa using hn.symm)
    unfold Oper.wp
    simp [execOp, ho, resolve, invoke, builtin, hd, hs, hrun, Result.andThen]
    exact h w (by simpa [splice] using hg) hb ⟨fun _ _ => rfl, rfl⟩
  · obtain ⟨ad, rfl, hc⟩ := hsrc.cells (by omega)
    subst hdp
    have hrun := run_copy_row (P := P) w dT sT o.type 5 g off dLen dCap ad sLen sCap (bcs D).toArray 5 (bcs S) hu hsz hg (by rw [hlen]; exact hn) hc (by simp [bcs_length]; omega) (oneCell_bcs S)
    unfold Oper.wp
    simp [execOp, ho, resolve, invoke, builtin, hd, hs, hrun, Result.andThen]
    rw [hlen]
    refine h _ ?_ (below_setRow hb hBg _) ⟨fun k hk => setRow_other w g k _ hk, by simp [World.setRow]⟩
    have e := setRow_heap w g _ (bcs (splice D off S)).toArray 5 _ hg
    rw [← splice_bcs] at e
    rw [Blk, ← splice_bcs]
    simpa [splice, hlen] using e

/-- The same in a region that does not draw. -/
theorem wpList_copy_bytes {P : Program} {ops : Array Oper} {rest : List Oper} {o : Oper} {a : Act} {w : World} {Q : Exit → Act → World → Prop} (hgd : o.guard = none) (d s : Operand) (dT sT : TypeId)
    (ho : o.op = .call { callee := .builtin .copy, args := #[d, s], argTypes := #[dT, sT] }) (hu : P.underlying dT = some (.slice 5)) (hsz : (P.info? 5).map (·.size) = some 1)
    (dp sp : Option Addr) (dLen dCap sLen sCap : Nat) (hd : a.eval d = .slice dp dLen dCap) (hs : a.eval s = .slice sp sLen sCap)
    (g off : Nat) (D S : Bs) (hg : Blk w g D) (hdp : dp = some ⟨g, off, none⟩) (hsrc : SrcB w sp S) (hn : S.length = Nat.min sLen dLen) (hfit : off + S.length ≤ D.length) (B : Nat) (w0 : World) (hb : Below B w0 w) (hBg : B ≤ g)
    (h : ∀ w', Blk w' g (splice D off S) → Below B w0 w' → Only w w' g → wpList P ops Q rest (a.put o.dst (goInt S.length)) w') :
    wpList P ops Q (o :: rest) a w := by
  refine wpList_plain hgd fun K hK => ?_
  have := step_copy_bytes (P := P) (ops := ops) (K := K) (Q := Q) (E := True) hgd d s dT sT ho hu hsz dp sp dLen dCap sLen sCap hd hs g off D S hg hdp hsrc hn hfit B w0 hb hBg (fun w' h1 h2 h3 => hK _ _ (h w' h1 h2 h3))
  have hw : Region.wanted o (yielded ops a.tmps) = true := by simp [Region.wanted, hgd]
  rwa [if_pos hw] at this

/-- make([]byte, n, m): a new block of zeros; the world behind it under a new name. -/
theorem wpList_make_bytes {P : Program} {w : World} {ops : Array Oper} {rest : List Oper} {o : Oper} {a : Act} {Q : Exit → Act → World → Prop}
    (hg : o.guard = none) (l c : Operand) (t : TypeId) (hop : o.op = Op.makeSlice t l c)
    (i : TypeInfo) (h1 : P.underlying t = some (.slice 5)) (h2 : P.info? 5 = some i) (h3 : i.zero = some (.int .u8 0)) (h4 : i.size = 1) (h5 : i.bytes = 1)
    (kl kc : IntKind) (L C : Int) (n m : Nat) (hl : a.eval l = .int kl L) (hc : a.eval c = .int kc C) (hL : L = (n : Int)) (hC : C = (m : Int)) (hnm : n ≤ m) (b2 : m ≤ 281474976710656)
    (B : Nat) (w0 : World) (hb : Below B w0 w) (hB : B ≤ w.heap.size)
    (hK : ∀ w', Blk w' w.heap.size (List.replicate m 0) → Below B w0 w' → Below w.heap.size w w' → w.heap.size < w'.heap.size → wpList P ops Q rest (a.put o.dst (.slice (some ⟨w.heap.size, 0, none⟩) n m)) w') :
    wpList P ops Q (o :: rest) a w := by
  refine wpList_plain hg fun K hK' => ?_
  subst hL; subst hC
  have hb' : (i.bytes : Int) * (m : Int) ≤ 281474976710656 := by rw [h5]; omega
  have hrun := run_make (P := P) w t 5 i (.int .u8 0) h1 h2 h3 kl kc n m (by omega) (by omega) hb' (by omega)
  simp only [Int.toNat_natCast, h4, Nat.mul_one] at hrun
  have hcells : (madeCells (Value.int .u8 0).cells m) = (bcs (List.replicate m 0)).toArray := by
    apply Array.ext'
    have : (Value.int .u8 0).cells = #[Value.int .u8 0] := rfl
    rw [this, toList_madeCells_one]; simp [bcs]
  rw [hcells] at hrun
  unfold Oper.wp
  simp [execOp, hop, hl, hc, hrun, Result.andThen]
  exact hK' _ _ (hK _ (Blk.new w _) (hb.alloc hB _) ((Below.refl _ _).alloc (Nat.le_refl _) _) (by simp))

/-- append of nothing. -/
theorem wpList_append_zero {P : Program} {w : World} {ops : Array Oper} {rest : List Oper} {o : Oper} {a : Act} {Q : Exit → Act → World → Prop}
    (hg : o.guard = none) (s x : Operand) (t : TypeId) (hop : o.op = Op.call { callee := Callee.builtin Builtin.append, args := #[s, x], argTypes := #[t, t] })
    (e : TypeId) (i : TypeInfo) (h1 : P.underlying t = some (.slice e)) (h2 : P.info? e = some i)
    (sp ad : Option Addr) (n cap c : Nat) (hs : a.eval s = .slice sp n cap) (hx : a.eval x = .slice ad 0 c) (hnc : n ≤ cap)
    (hK : wpList P ops Q rest (a.put o.dst (.slice sp n cap)) w) :
    wpList P ops Q (o :: rest) a w := by
  refine wpList_plain hg fun K hK' => ?_
  have hl : ∀ b : Addr, (loadCells b 0).run P w = .ok #[] w := fun b => by
    have := run_firstCells_some (P := P) w i.size 0 b 0 c [] (by simp) (by simp)
    simpa [Builtin.firstCells] using this
  have hrun : (Builtin.append_ #[t, t] o.type #[.slice sp n cap, .slice ad 0 c]).run P w = .ok (.slice sp n cap) w := by
    cases sp <;> cases ad <;> simp [Builtin.append_, run_underlying h1, sizeOf, typeInfo, h2, Builtin.lenOf, hnc, Builtin.firstCells, hl, storeCells]
  unfold Oper.wp
  simp [execOp, hop, resolve, invoke, builtin, hs, hx, hrun, Result.andThen]
  exact hK' _ _ hK

/-- append of a string within the room of a block known whole. -/
theorem wpList_append_str_room {P : Program} {w : World} {ops : Array Oper} {rest : List Oper} {o : Oper} {a : Act} {Q : Exit → Act → World → Prop}
    (hg : o.guard = none) (s x : Operand) (t u : TypeId) (hop : o.op = Op.call { callee := Callee.builtin Builtin.append, args := #[s, x], argTypes := #[t, u] })
    (i : TypeInfo) (h1 : P.underlying t = some (.slice 5)) (hu : P.underlying u = some .string) (h2 : P.info? 5 = some i) (h4 : i.size = 1)
    (g n cap : Nat) (D : Bs) (str : ByteArray) (hs : a.eval s = .slice (some ⟨g, 0, none⟩) n cap) (hx : a.eval x = .string str) (hD : Blk w g D) (hnc : n + str.size ≤ cap) (hfit : n + str.size ≤ D.length)
    (B : Nat) (w0 : World) (hb : Below B w0 w) (hBg : B ≤ g)
    (hK : ∀ w', Blk w' g (splice D n str.data.toList) → Below B w0 w' → Only w w' g → wpList P ops Q rest (a.put o.dst (.slice (some ⟨g, 0, none⟩) (n + str.size) cap)) w') :
    wpList P ops Q (o :: rest) a w := by
  refine wpList_plain hg fun K hK' => ?_
  have hrun := Lib.run_append_room_string (P := P) w t u o.type 5 i h1 hu h2 h4 g n cap _ hD str hnc (by simp [bcs_length]; omega)
  unfold Oper.wp
  simp [execOp, hop, resolve, invoke, builtin, hs, hx, hrun, Result.andThen]
  refine hK' _ _ (hK _ ?_ (below_setRow hb hBg _) ⟨fun k hk => setRow_other w g k _ hk, by simp [World.setRow]⟩)
  have e := setRow_heap w g _ (bcs (splice D n str.data.toList)).toArray 5 _ hD
  rw [← splice_bcs] at e
  rw [Blk, ← splice_bcs]
  have hl : (bcs str.data.toList).length = str.size := by rw [bcs_length]; rfl
  simpa [splice, hl, Lib.strCells, bcs] using e

/-- append of bytes within the room of a block known whole. -/
theorem wpList_append_room {P : Program} {w : World} {ops : Array Oper} {rest : List Oper} {o : Oper} {a : Act} {Q : Exit → Act → World → Prop}
    (hg : o.guard = none) (s x : Operand) (t : TypeId) (hop : o.op = Op.call { callee := Callee.builtin Builtin.append, args := #[s, x], argTypes := #[t, t] })
    (i : TypeInfo) (h1 : P.underlying t = some (.slice 5)) (h2 : P.info? 5 = some i) (h4 : i.size = 1)
    (g n cap : Nat) (D S : Bs) (sp : Option Addr) (c : Nat) (hs : a.eval s = .slice (some ⟨g, 0, none⟩) n cap) (hx : a.eval x = .slice sp S.length c) (hpos : 0 < S.length) (hD : Blk w g D) (hsrc : SrcB w sp S) (hnc : n + S.length ≤ cap) (hfit : n + S.length ≤ D.length)
    (B : Nat) (w0 : World) (hb : Below B w0 w) (hBg : B ≤ g)
    (hK : ∀ w', Blk w' g (splice D n S) → Below B w0 w' → Only w w' g → wpList P ops Q rest (a.put o.dst (.slice (some ⟨g, 0, none⟩) (n + S.length) cap)) w') :
    wpList P ops Q (o :: rest) a w := by
  refine wpList_plain hg fun K hK' => ?_
  obtain ⟨ad, rfl, hc⟩ := hsrc.cells (by rw [bcs_length]; exact hpos)
  have hrun := run_append_room (P := P) (w := w) t o.type 5 i h1 h2 g n cap _ hD ad S.length c (bcs S) (by rw [bcs_length, h4]; simp) hc (oneCell_bcs S) hnc (by rw [h4]; simp [bcs_length]; omega)
  unfold Oper.wp
  simp [execOp, hop, resolve, invoke, builtin, hs, hx, hrun, Result.andThen]
  refine hK' _ _ (hK _ ?_ (below_setRow hb hBg _) ⟨fun k hk => setRow_other w g k _ hk, by simp [World.setRow]⟩)
  have e := setRow_heap w g _ (bcs (splice D n S)).toArray 5 _ hD
  rw [← splice_bcs] at e
  rw [Blk, ← splice_bcs]
  simpa [splice, h4, bcs_length] using e

end Go.Proofs.YtfppgplboomdbaaGreatDoor
