/-
  strings.Builder: copyCheck, WriteString, WriteRune of one byte.
-/
import Derived.Test.YtlmilelopajdiaaGreatDoorUC6
import Derived.Lib.Builder
import Derived.Lib.UnsafeStr
import Derived.Lib.RuneBytes
namespace Go.Proofs.YtlmilelopajdiaaGreatDoor
open Go.RowKit

theorem bsize : (Tryz.prog.info? 100).map (·.size) = some 2 := by kernel_rfl
theorem blies : liesAt Tryz.prog Tryz.prog.depth 100 (2 / Tryz.prog.cellsOf 100) 0 100 1 = true := by kernel_rfl

set_option maxRecDepth 100000 in
set_option maxHeartbeats 1000000 in
theorem copyUsed (b : Nat) (w : World) (h0 : w.cell? ⟨b, 0, none⟩ = some (.pointer (some ⟨b, 0, none⟩))) :
    Calls Tryz.prog 81 #[.pointer (some ⟨b, 0, none⟩)] w fun e w' => e = .returned (.tuple #[]) ∧ w = w' := by
  obtain ⟨j, hj, _⟩ := Option.map_eq_some_iff.1 bsize
  go_enter Tryz.func81, Tryz.ntmps81
  go_wp2_with fail
  rw [Lib.run_neq_ptr_same w _ Tryz.underlying97 hj]
  go_wp2_with fail
  go_end0
  exact ⟨rfl, rfl⟩
set_option maxRecDepth 100000 in
set_option maxHeartbeats 1000000 in
theorem copyFresh (b : Nat) (w : World) (h0 : w.cell? ⟨b, 0, none⟩ = some (.pointer none)) (hsh : w.shape? b = some (100, 2)) (hfz : w.frozen? ⟨b, 0, none⟩ = false) :
    Calls Tryz.prog 81 #[.pointer (some ⟨b, 0, none⟩)] w fun e w' => e = .returned (.tuple #[]) ∧ w' = w.setCell ⟨b, 0, none⟩ (.pointer (some ⟨b, 0, none⟩)) := by
  obtain ⟨j, hj, hjs⟩ := Option.map_eq_some_iff.1 bsize
  go_enter Tryz.func81, Tryz.ntmps81
  go_wp2_with fail
  rw [Lib.run_to_unsafe w ⟨b, 0, none⟩ Tryz.underlying97 Tryz.underlying158 hj (by rw [hjs]; decide) hsh (Nat.zero_lt_succ 1)]
  simp only [Result.andThen]
  rw [Oper.upon_value]
  go_wp2_with fail
  rw [run_callFunc_extern Tryz.func86 (by kernel_rfl) (by kernel_rfl) (by kernel_rfl) (e := Extern.AbiNoEscape.same) (by kernel_rfl)]
  rw [Lib.run_noEscape]
  simp only [Result.andThen]
  rw [Oper.upon_value]
  go_wp2_with fail
  rw [Lib.run_from_unsafe w ⟨b, 0, none⟩ Tryz.underlying158 Tryz.underlying97 hj hsh blies]
  simp only [Result.andThen]
  rw [Oper.upon_value]
  go_wp2_with fail
  go_end0
  exact ⟨rfl, rfl⟩
theorem copyCheck (B b : Nat) (bs : List Value) (w : World) (h : Lib.IsBuilder 100 5 B b bs w) :
    Calls Tryz.prog 81 #[.pointer (some ⟨b, 0, none⟩)] w fun e w' => e = .returned (.tuple #[]) ∧ (Lib.BuilderAt 100 5 B b (.pointer (some ⟨b, 0, none⟩)) bs w' ∧ Below B w w') := by
  rcases h with h | h
  · refine (copyFresh b w h.cell0 h.shape h.frozen0).mono ?_
    rintro e w' ⟨rfl, rfl⟩
    exact ⟨rfl, h.used _, (Below.refl B w).setCell (p := ⟨b, 0, none⟩) h.1 _⟩
  · refine (copyUsed b w h.cell0).mono ?_
    rintro e w' ⟨rfl, rfl⟩
    exact ⟨rfl, h, Below.refl B _⟩
/-- A builder that holds the bytes s. -/
def BB (w : World) (B b : Nat) (s : List UInt8) : Prop := Lib.IsBuilder 100 5 B b (Lib.byteCells s) w
theorem strCells_bytes (s : List UInt8) : Lib.strCells ⟨s.toArray⟩ = Lib.byteCells s := by unfold Lib.strCells Lib.byteCells; simp
theorem byteCells_append (s t : List UInt8) : Lib.byteCells s ++ Lib.byteCells t = Lib.byteCells (s ++ t) := by unfold Lib.byteCells; simp
theorem ba_size (s : List UInt8) : ByteArray.size ⟨s.toArray⟩ = s.length := by simp [ByteArray.size]

set_option maxRecDepth 100000 in
set_option maxHeartbeats 2000000 in
theorem writeString (B b : Nat) (t s : List UInt8) (w : World) (h : BB w B b t) (hlen : t.length + s.length ≤ 140737488355328) (hBw : B ≤ w.heap.size) :
    Calls Tryz.prog 62 #[.pointer (some ⟨b, 0, none⟩), .string ⟨s.toArray⟩] w fun e w' => e = .returned (.tuple #[.int .i64 (s.length : Nat), .nilIface]) ∧ BB w' B b (t ++ s) ∧ Below B w w' := by
  obtain ⟨i0, hi, hz0, hz1, hz2⟩ := info_parts info5
  go_enter Tryz.func62, Tryz.ntmps62
  go_wp2_with (go_at_call 81; refine (copyCheck B b _ _ h).mono ?_)
  rintro e w1 ⟨rfl, h1, hb1⟩
  obtain ⟨hB, v, hbk, hown, hne⟩ := h1
  have c0 : w1.cell? ⟨b, 0, none⟩ = some (.pointer (some ⟨b, 0, none⟩)) := by rw [Lib.cell_of_heap hbk]; rfl
  have c1 : w1.cell? ⟨b, 1, none⟩ = some v := by rw [Lib.cell_of_heap hbk]; rfl
  have hs1 : B ≤ w1.heap.size := by have := hb1.size; omega
  go_wp2_with (at_builtin; refine Lib.wpList_append_own_string _ rfl _ _ 98 9 rfl B 5 i0 Tryz.underlying98 Tryz.underlying9 hi hz0 hz1 hz2 _ _ _ rfl hown ⟨s.toArray⟩ rfl ?c3 ?c4 ?c5 ?_)
  case c3 => rw [Lib.byteCells_length, ba_size]; unfold maxLen; omega
  case c4 => rw [Lib.byteCells_length, ba_size]; omega
  case c5 => exact hs1
  intro v' w2 hown' hgrow _
  have hlt : b < w1.heap.size := lt_of_block hbk
  have hb2 : w2.heap[b]? = some (.cells #[.pointer (some ⟨b, 0, none⟩), v] 100 (0, 0)) := by
    rw [hgrow.block b hlt (fun e => hne e.symm)]
    exact hbk
  have d0 : w2.cell? ⟨b, 0, none⟩ = some (.pointer (some ⟨b, 0, none⟩)) := by rw [Lib.cell_of_heap hb2]; rfl
  have d1 : w2.cell? ⟨b, 1, none⟩ = some v := by rw [Lib.cell_of_heap hb2]; rfl
  have f1 : w2.frozen? ⟨b, 1, none⟩ = false := Lib.frozen_of_heap hb2 1
  obtain ⟨ao, n', cap, rfl⟩ : ∃ ao n' cap, v' = .slice ao n' cap := by
    rcases hown'.2 with ⟨hv, _⟩ | ⟨g, cap, cur, hv, _⟩
    · exact ⟨_, _, _, hv⟩
    · exact ⟨_, _, _, hv⟩
  go_wp2_with fail
  go_ret2
  refine ⟨rfl, ?_, ?_⟩
  · refine Or.inr (Lib.BuilderAt.put (T := 100) (e := 5) hB hb2 (bs' := Lib.byteCells (t ++ s)) ?_ (by decide))
    rw [strCells_bytes, byteCells_append] at hown'
    rw [Lib.byteCells_length, List.length_append]
    rw [Lib.byteCells_length] at hown'
    exact hown'
  · exact (hb1.grown hgrow hs1 (fun k hk => (hown.lt k hk).1)).setCell (p := ⟨b, 1, none⟩) hB _
theorem rune_byte (c : UInt8) (h : c < 128) : Lib.runeCells (c.toNat : Int) = Lib.byteCells [c] := by
  have h' : c.toNat < 128 := h
  unfold Lib.runeCells Lib.encodeRuneZ
  simp only [show (0 : Int) ≤ c.toNat by omega, show (c.toNat : Int) ≤ 127 by omega, and_self, if_true]
  rfl

set_option maxRecDepth 100000 in
set_option maxHeartbeats 2000000 in
theorem writeRune (B b : Nat) (t : List UInt8) (c : UInt8) (r : Int) (hr : r = (c.toNat : Int)) (hc : c < 128) (w : World) (h : BB w B b t) (hlen : t.length + 4 ≤ 140737488355328) (hBw : B ≤ w.heap.size) :
    Calls Tryz.prog 77 #[.pointer (some ⟨b, 0, none⟩), .int .i32 r] w fun e w' => ∃ x, e = .returned (.tuple #[x, .nilIface]) ∧ BB w' B b (t ++ [c]) ∧ Below B w w' := by
  have hr0 : -2147483648 ≤ r := by omega
  have hr1 : r ≤ 2147483647 := by have := c.toNat_lt; omega
  have HRC : Hid (Lib.runeCells r = Lib.byteCells [c]) := Lib.hid (by rw [hr]; exact rune_byte c hc)
  clear hr hc
  go_enter Tryz.func77, Tryz.ntmps77
  go_wp2_with (go_at_call 81; refine (copyCheck B b _ _ h).mono ?_)
  rintro e w1 ⟨rfl, h1, hb1⟩
  obtain ⟨hB, v, hbk, hown, hne⟩ := h1
  have c0 : w1.cell? ⟨b, 0, none⟩ = some (.pointer (some ⟨b, 0, none⟩)) := by rw [Lib.cell_of_heap hbk]; rfl
  have c1 : w1.cell? ⟨b, 1, none⟩ = some v := by rw [Lib.cell_of_heap hbk]; rfl
  have hs1 : B ≤ w1.heap.size := by have := hb1.size; omega
  obtain ⟨ao1, n1, cap1, rfl⟩ : ∃ ao n' cap, v = .slice ao n' cap := by
    rcases hown.2 with ⟨hv, _⟩ | ⟨g, cap, cur, hv, _⟩
    · exact ⟨_, _, _, hv⟩
    · exact ⟨_, _, _, hv⟩
  go_wp2_with fail
  refine (Tryz.utf8_AppendRune_plain B _ _ _ r hr0 hr1 w1 hown (by rw [Lib.byteCells_length]; omega) hs1).mono ?_
  rintro e w2 ⟨v', rfl, hown', o, hgrow⟩
  have hlt : b < w1.heap.size := lt_of_block hbk
  have hb2 : w2.heap[b]? = some (.cells #[.pointer (some ⟨b, 0, none⟩), .slice ao1 n1 cap1] 100 (0, 0)) := by
    rw [hgrow.block b (by simp; omega) (fun e => hne e.symm), Lib.alloc_old w1 _ b hlt]
    exact hbk
  have d0 : w2.cell? ⟨b, 0, none⟩ = some (.pointer (some ⟨b, 0, none⟩)) := by rw [Lib.cell_of_heap hb2]; rfl
  have d1 : w2.cell? ⟨b, 1, none⟩ = some (.slice ao1 n1 cap1) := by rw [Lib.cell_of_heap hb2]; rfl
  have f1 : w2.frozen? ⟨b, 1, none⟩ = false := Lib.frozen_of_heap hb2 1
  rw [HRC.out, byteCells_append] at hown'
  obtain ⟨ao, n', cap, rfl⟩ : ∃ ao n' cap, v' = .slice ao n' cap := by
    rcases hown'.2 with ⟨hv, _⟩ | ⟨g, cap, cur, hv, _⟩
    · exact ⟨_, _, _, hv⟩
    · exact ⟨_, _, _, hv⟩
  have HP : Hid (BB (w2.setCell ⟨b, 1, none⟩ (.slice ao n' cap)) B b (t ++ [c])) := Lib.hid (by
    refine Or.inr (Lib.BuilderAt.put (T := 100) (e := 5) hB hb2 (bs' := Lib.byteCells (t ++ [c])) ?_ (by decide))
    rw [Lib.byteCells_length, List.length_append]
    rw [Lib.byteCells_length, Lib.byteCells_length] at hown'
    exact hown')
  have HQ : Hid (Below B w (w2.setCell ⟨b, 1, none⟩ (.slice ao n' cap))) := Lib.hid (((hb1.alloc hs1 o).grown hgrow (by simp; omega) (fun k hk => (hown.lt k hk).1)).setCell (p := ⟨b, 1, none⟩) hB _)
  clear hown hown' hgrow hb1 hne h
  have e1 : (w2.setCell ⟨b, 1, none⟩ (.slice ao n' cap)).cell? ⟨b, 1, none⟩ = some (.slice ao n' cap) := by
    rw [Lib.cell_of_heap (Lib.heap_setCell_same (i := 1) hb2 _)]; rfl
  go_wp2_with fail
  go_ret2
  exact ⟨_, rfl, HP.out, HQ.out⟩
end Go.Proofs.YtlmilelopajdiaaGreatDoor

/-
  Zeros and points at a text's end: the package's zzTrimRight, the specification's WriteNumber: what they give.
-/
namespace Go.Proofs.YtlmilelopajdiaaGreatDoor
open Go.RowKit

/-- Without the bytes c at its end. -/
def trimC (c : UInt8) (s : List UInt8) : List UInt8 := (s.reverse.dropWhile (· == c)).reverse
theorem take_snoc (s : List UInt8) (n : Nat) (hn : n < s.length) : s.take (n + 1) = s.take n ++ [s[n]] := by rw [List.take_add_one, List.getElem?_eq_getElem hn]; rfl
theorem trimC_go (c : UInt8) (s : List UInt8) (n : Nat) (hn : n < s.length) (h : s[n] = c) : trimC c (s.take (n + 1)) = trimC c (s.take n) := by
  unfold trimC
  rw [take_snoc s n hn, List.reverse_append, h]
  simp
theorem trimC_stop (c : UInt8) (s : List UInt8) (n : Nat) (hn : n < s.length) (h : s[n] ≠ c) : trimC c (s.take (n + 1)) = s.take (n + 1) := by
  unfold trimC
  rw [take_snoc s n hn, List.reverse_append]
  have : (s[n] == c) = false := by simp [h]
  simp [this]
theorem trimC_nil (c : UInt8) : trimC c [] = [] := rfl
theorem sidx (s : List UInt8) (m : Nat) (hm : m < s.length) (w : World) : (Instr.index 9 (.string ⟨s.toArray⟩) (.int .i64 (m : Int))).run Tryz.prog w = .ok (.int .u8 (s[m].toNat : Int)) w := by
  rw [run_index_string w 9 _ .i64 _ Tryz.underlying9, dif_pos ⟨by omega, by rw [ba_size]; omega⟩]
  rfl
theorem ext_take (s : List UInt8) (n : Nat) : ByteArray.extract ⟨s.toArray⟩ 0 n = ⟨(s.take n).toArray⟩ := by
  apply ByteArray.ext
  simp
theorem sext (s : List UInt8) (n : Nat) (hn : n ≤ s.length) (w : World) : (Instr.slice 9 (.string ⟨s.toArray⟩) none (some (.int .i64 (n : Int))) none).run Tryz.prog w = .ok (.string ⟨(s.take n).toArray⟩) w := by
  rw [run_slice_string_h w 9 _ Tryz.underlying9 .i64 _ (by omega) (by rw [ba_size]; omega), Int.toNat_natCast]
  rw [ext_take s n]
theorem byte_beq (a c : UInt8) : ((c.toNat : Int) == (a.toNat : Int)) = (a == c) := by
  rw [Bool.eq_iff_iff, beq_iff_eq, beq_iff_eq]
  constructor
  · intro h; exact UInt8.toNat_inj.1 (by omega)
  · intro h; rw [h]

set_option maxHeartbeats 2000000 in
theorem zzTrim (s : List UInt8) (c : UInt8) (hs : s.length ≤ 100000) (w : World) : Calls Tryz.prog 87 #[.string ⟨s.toArray⟩, .string ⟨#[c]⟩] w fun e w' => e = .returned (.string ⟨(trimC c s).toArray⟩) ∧ ∃ j, w' = w.drewN j := by
  have hl1 : ByteArray.size ⟨#[c]⟩ = 1 := rfl
  have hls := ba_size s
  have hix0 : ∀ w, (Instr.index 9 (.string ⟨#[c]⟩) (.int .i64 0)).run Tryz.prog w = .ok (.int .u8 (c.toNat : Int)) w := fun w => sidx [c] 0 (by simp) w
  go_enter Tryz.func87, Tryz.ntmps87
  go_wp2_with fail
  go_loopg [5, 6, 7] s.length (fun g v5 v6 v7 wr => ∃ j : Nat, g ≤ s.length ∧ v5 = .int .i64 g ∧ wr = w.drewN j ∧ Hid (trimC c (s.take g) = trimC c s))
  case atStart => exact ⟨0, Nat.le_refl _, rfl, rfl, Lib.hid (by rw [List.take_length])⟩
  case round =>
    obtain ⟨j, hn, rfl, rfl, hT⟩ := hrel
    by_cases h0 : gk = 0
    · subst h0
      have hx := sext s 0 (Nat.zero_le _)
      go_wp2_with fail
      go_ret
      exact ⟨by rw [← hT.out]; rfl, _, rfl⟩
    · obtain ⟨m, rfl⟩ : ∃ m, gk = m + 1 := ⟨gk - 1, by omega⟩
      have hm1 : ((m + 1 : Nat) : Int) - 1 = (m : Int) := by omega
      have hix := sidx s m (by omega)
      obtain ⟨r, hr⟩ : ∃ r, r = (s[m] == c) := ⟨_, rfl⟩
      have hbe := byte_beq s[m] c
      rw [← hr] at hbe
      have HR := Lib.hid hr
      clear hr h0
      go_wp2_with fail
      go_loopg [6, 7] 1 (fun g v6 v7 wr => (g = 1 ∧ v6 = .bool false ∧ v7 = .int .i64 0 ∧ wr = w.drewN j) ∨ (g = 0 ∧ v6 = .bool r ∧ v7 = .int .i64 1 ∧ ∃ j', wr = w.drewN j'))
      case atStart => exact Or.inl ⟨rfl, rfl, rfl, rfl⟩
      case round =>
        rcases hrel with ⟨rfl, rfl, rfl, rfl⟩ | ⟨rfl, rfl, rfl, j', rfl⟩
        · cases r with
          | true =>
            go_wp2_with fail
            go_quiet (fail)
            go_wp2_with fail
            go_roundg 0
            case measure => omega
            case rel => exact Or.inr ⟨rfl, rfl, rfl, _, rfl⟩
          | false =>
            go_wp2_with fail
            go_quiet (fail)
            go_wp2_with fail
            go_roundg 0
            case measure => omega
            case rel => exact Or.inr ⟨rfl, rfl, rfl, _, rfl⟩
        · cases r with
          | true =>
            have HT : Hid (trimC c (s.take m) = trimC c s) := Lib.hid (by
              rw [← hT.out]; exact (trimC_go c s m (by omega) (by have := HR.out; exact (beq_iff_eq.1 this.symm))).symm)
            go_wp2_with fail
            go_roundg m
            case measure => omega
            case rel => exact ⟨_, by omega, rfl, rfl, HT⟩
          | false =>
            have HT : Hid (trimC c s = s.take (m + 1)) := Lib.hid (by
              rw [← hT.out]; exact trimC_stop c s m (by omega) (by have := HR.out; exact (beq_eq_false_iff_ne.1 this.symm)))
            have hx := sext s (m + 1) hn
            go_wp2_with fail
            go_ret
            exact ⟨by rw [HT.out, ← ext_take s (m + 1)]; rfl, _, rfl⟩
end Go.Proofs.YtlmilelopajdiaaGreatDoor

/-
  A place's text; writeCoord, writeEMPTY.
-/
namespace Go.Proofs.YtlmilelopajdiaaGreatDoor
open Go.RowKit

/-- A slice of numbers, below block B. -/
def FRow (w : World) (B : Nat) (v : Value) (xs : List Nat) : Prop :=
  (∀ x ∈ xs, x < 18446744073709551616) ∧ xs.length ≤ 1000000000 ∧ ((xs = [] ∧ v = .slice none 0 0) ∨ ∃ b o cap, v = .slice (some ⟨b, o, none⟩) xs.length cap ∧ b < B ∧ xs.length ≤ cap ∧ cap ≤ 9223372036854775807 ∧
    ∀ (j : Nat) (hj : j < xs.length), w.cell? ⟨b, o + j, none⟩ = some (.float .f64 xs[j]))
theorem FRow.below {w w' : World} {B : Nat} {v : Value} {xs : List Nat} (h : FRow w B v xs) (hb : Below B w w') : FRow w' B v xs := by
  obtain ⟨h1, h0, h2 | ⟨b, o, cap, h2, h3, h4, h5, h6⟩⟩ := h
  · exact ⟨h1, h0, Or.inl h2⟩
  · exact ⟨h1, h0, Or.inr ⟨b, o, cap, h2, h3, h4, h5, fun j hj => by rw [hb.cell h3]; exact h6 j hj⟩⟩
theorem BB.below {w w' : World} {B b : Nat} {t : List UInt8} (h : BB w B b t) (hb : Below w.heap.size w w') : BB w' B b t := by
  rcases h with ⟨hB, v, hk, ho, hn⟩ | ⟨hB, v, hk, ho, hn⟩
  · exact Or.inl ⟨hB, v, by rw [hb.block b (lt_of_block hk)]; exact hk, own_below ho hb, hn⟩
  · exact Or.inr ⟨hB, v, by rw [hb.block b (lt_of_block hk)]; exact hk, own_below ho hb, hn⟩
/-- A number's text in the impl's words. -/
noncomputable def numS (dg : Int) (x : Nat) : List UInt8 := if 0 < dg then trimC 46 (trimC 48 (numT x dg)) else numT x dg
/-- Numbers with a blank ahead of each but the first. -/
noncomputable def placeS (dg : Int) : List Nat → List UInt8
  | [] => []
  | x :: xs => numS dg x ++ xs.flatMap fun y => 32 :: numS dg y
theorem placeS_snoc (dg : Int) (xs : List Nat) (x : Nat) : placeS dg (xs ++ [x]) = placeS dg xs ++ (if xs = [] then [] else [32]) ++ numS dg x := by
  cases xs with
  | nil => simp [placeS]
  | cons a t => simp [placeS]
theorem trimC_len (c : UInt8) (s : List UInt8) : (trimC c s).length ≤ s.length := by
  unfold trimC
  rw [List.length_reverse]
  have := (List.dropWhile_sublist (· == c) (l := s.reverse)).length_le
  rw [List.length_reverse] at this
  exact this
theorem numS_len (dg : Int) (x : Nat) (hx : x < 18446744073709551616) (h0 : -1 ≤ dg) (h1 : dg ≤ 20) : (numS dg x).length ≤ 100000 := by
  have := (numT_ok x dg hx h0 h1).1.len
  have h2 := trimC_len 48 (numT x dg)
  have h3 := trimC_len 46 (trimC 48 (numT x dg))
  unfold numS
  split <;> omega
theorem take_place (dg : Int) (xs : List Nat) (k : Nat) (hk : k < xs.length) : placeS dg (xs.take (k + 1)) = placeS dg (xs.take k) ++ (if k = 0 then [] else [32]) ++ numS dg xs[k] := by
  rw [List.take_add_one, List.getElem?_eq_getElem hk]
  show placeS dg (xs.take k ++ [xs[k]]) = _
  rw [placeS_snoc]
  have : (xs.take k = []) = (k = 0) := by
    rw [List.take_eq_nil_iff]
    have : xs ≠ [] := by intro h; rw [h] at hk; simp at hk
    simp [this]
  simp only [this]
theorem placeS_mono (dg : Int) (xs : List Nat) (k : Nat) : (placeS dg (xs.take k)).length ≤ (placeS dg xs).length := by
  cases xs with
  | nil => simp
  | cons a t =>
    cases k with
    | zero => simp [placeS]
    | succ k =>
      simp only [List.take_succ_cons, placeS, List.length_append]
      have : ((t.take k).flatMap fun y => 32 :: numS dg y).length ≤ (t.flatMap fun y => 32 :: numS dg y).length := by
        conv => rhs; rw [← List.take_append_drop k t, List.flatMap_append, List.length_append]
        omega
      omega

set_option maxRecDepth 100000 in
set_option maxHeartbeats 2000000 in
theorem writeCoord (B b eb : Nat) (dg : Int) (t : List UInt8) (v : Value) (xs : List Nat) (w : World) (h : BB w B b t) (hT : Tabs B w) (hBw : B ≤ w.heap.size) (he : w.cell? ⟨eb, 0, none⟩ = some (.int .i64 dg)) (heb : eb < B) (h0 : -1 ≤ dg) (h1 : dg ≤ 20)
    (hv : FRow w B v xs) (hlen : t.length + (placeS dg xs).length ≤ 70000000000000) :
    Calls Tryz.prog 82 #[.pointer (some ⟨eb, 0, none⟩), .pointer (some ⟨b, 0, none⟩), v] w fun e w' => e = .returned .nilIface ∧ BB w' B b (t ++ placeS dg xs) ∧ Below B w w' := by
  go_enter Tryz.func82, Tryz.ntmps82
  rcases hv with ⟨hx, hxl, ⟨rfl, rfl⟩ | ⟨fb, o, cap, rfl, hfb, hcap, hcap2, hcell⟩⟩
  · go_wp2_with fail
    go_loopg [7, 8, 11, 16] 0 (fun g v7 v8 v11 v16 wr => v16 = .int .i64 0 ∧ wr = w)
    case atStart => exact ⟨rfl, rfl⟩
    case round =>
      obtain ⟨rfl, rfl⟩ := hrel
      go_wp2_with fail
      go_ret
      exact ⟨rfl, by simpa [placeS] using h, Below.refl _ _⟩
  · have HX := Lib.hid hx
    have HC := Lib.hid hcell
    have HL := Lib.hid hlen
    clear hx hcell hlen
    go_wp2_with fail
    go_loopg [7, 8, 11, 16] xs.length (fun g v7 v8 v11 v16 wr => ∃ k : Nat, k + g = xs.length ∧ v16 = .int .i64 k ∧ BB wr B b (t ++ placeS dg (xs.take k)) ∧ Below B w wr)
    case atStart => exact ⟨0, by omega, rfl, by simpa [placeS] using h, Below.refl _ _⟩
    case round =>
      obtain ⟨k, hk, rfl, hb, hbl⟩ := hrel
      have hTr := hT.below hbl
      have her : wr.cell? ⟨eb, 0, none⟩ = some (.int .i64 dg) := by rw [hbl.cell heb]; exact he
      have hBr : B ≤ wr.heap.size := by have := hbl.size; omega
      by_cases hkn : k < xs.length
      · obtain ⟨x, hx⟩ : ∃ x, x = xs[k] := ⟨_, rfl⟩
        have hxb : x < 18446744073709551616 := by rw [hx]; exact HX.out _ (List.getElem_mem hkn)
        have hc : wr.cell? ⟨fb, o + k, none⟩ = some (.float .f64 x) := by rw [hbl.cell hfb, hx]; exact HC.out k hkn
        have HS : Hid (placeS dg (xs.take (k + 1)) = placeS dg (xs.take k) ++ (if k = 0 then [] else [32]) ++ numS dg x) := Lib.hid (by rw [hx]; exact take_place dg xs k hkn)
        have HM : Hid (t.length + (placeS dg (xs.take (k + 1))).length ≤ 70000000000000) := Lib.hid (by have := placeS_mono dg xs (k + 1); have := HL.out; omega)
        have HN := Lib.hid (numT_ok x dg hxb h0 h1)
        clear hx
        obtain ⟨T, hTq⟩ : ∃ T, T = t ++ placeS dg (xs.take k) := ⟨_, rfl⟩
        obtain ⟨sep, hsep⟩ : ∃ sep : List UInt8, sep = if k = 0 then [] else [32] := ⟨_, rfl⟩
        have HQ : Hid (T ++ sep ++ numS dg x = t ++ placeS dg (xs.take (k + 1))) := Lib.hid (by rw [HS.out, hTq, hsep]; simp)
        have HL2 : Hid (T.length + sep.length + (numS dg x).length ≤ 70000000000000) := Lib.hid (by
          have := HM.out; have h5 := congrArg List.length HQ.out; simp only [List.length_append] at h5; omega)
        rw [← hTq] at hb
        have hT0 : T.length ≤ 70000000000000 := by have := HL2.out; omega
        have HSP := Lib.hid hsep
        clear hTq hsep HS HM hcap2 hcap
        go_upto_if 22 with (fail)
        go_cut [] (fun wx => BB wx B b (T ++ sep) ∧ Below B w wx)
        case first =>
          by_cases hk0 : k = 0
          · subst hk0
            have HE : Hid (T ++ sep = T) := Lib.hid (by rw [HSP.out]; simp)
            go_wp2_with fail
            go_meet
            exact ⟨by rw [HE.out]; exact hb, hbl⟩
          · have HE : Hid (sep = [32]) := Lib.hid (by rw [HSP.out, if_neg hk0])
            have hki : ((k : Int) != 0) = true := by simp; omega
            clear hk0
            go_wp2_with fail
            refine (writeRune B b T 32 32 rfl (by decide) _ hb (by omega) hBr).mono ?_
            rintro e w2 ⟨y, rfl, hb2, hbl2⟩
            go_wp2_with fail
            go_meet
            exact ⟨by rw [HE.out]; exact hb2, hbl.trans hbl2⟩
        case rest =>
          obtain ⟨hb2, hbl2⟩ := hcut
          generalize wc = w2 at *
          clear hb hbl hTr her hBr hc
          have hTr := hT.below hbl2
          have her : w2.cell? ⟨eb, 0, none⟩ = some (.int .i64 dg) := by rw [hbl2.cell heb]; exact he
          have hBr : B ≤ w2.heap.size := by have := hbl2.size; omega
          go_wp2_with fail
          refine (HN.out.2 B w2 hTr hBr).mono ?_
          rintro e w3 ⟨rfl, hb3⟩
          have hb3' := hb2.below hb3
          have hbl3 := hbl2.trans (hb3.mono hBr)
          have her3 : w3.cell? ⟨eb, 0, none⟩ = some (.int .i64 dg) := by rw [hbl3.cell heb]; exact he
          have hBr3 : B ≤ w3.heap.size := by have := hbl3.size; omega
          clear hb2 hbl2 hTr her hBr hb3
          obtain ⟨s, hs⟩ : ∃ s, s = numT x dg := ⟨_, rfl⟩
          have hsl : s.length ≤ 100000 := by rw [hs]; exact HN.out.1.len
          have hs2 : (trimC 48 s).length ≤ 100000 := by have := trimC_len 48 s; omega
          rw [← hs]
          by_cases hd : 0 < dg
          · have HNS : Hid (numS dg x = trimC 46 (trimC 48 s)) := Lib.hid (by rw [hs]; unfold numS; rw [if_pos hd])
            rw [HNS.out] at HL2
            have hlen := HL2.out
            clear hs HN
            have hbd : (T ++ sep).length + (trimC 46 (trimC 48 s)).length ≤ 140737488355328 := by rw [List.length_append]; omega
            go_wp2_with fail
            refine (zzTrim s 48 hsl _).mono ?_
            rintro e w4 ⟨rfl, j4, rfl⟩
            go_wp2_with fail
            refine (zzTrim (trimC 48 s) 46 hs2 _).mono ?_
            rintro e w4 ⟨rfl, j5, rfl⟩
            have hb5 : BB ((w3.drewN j4).drewN j5) B b (T ++ sep) := hb3'
            have hbl5 : Below B w ((w3.drewN j4).drewN j5) := hbl3.trans ⟨rfl, rfl, rfl, Nat.le_refl _, fun _ _ => rfl⟩
            have hBr5 : B ≤ ((w3.drewN j4).drewN j5).heap.size := hBr3
            clear hb3' hbl3 hBr3
            generalize (w3.drewN j4).drewN j5 = w5 at *
            go_wp2_with fail
            refine (writeString B b (T ++ sep) (trimC 46 (trimC 48 s)) w5 hb5 hbd hBr5).mono ?_
            rintro e w6 ⟨rfl, hb6, hbl6⟩
            go_wp2_with fail
            go_roundg (gk - 1)
            case measure => omega
            case rel => exact ⟨k + 1, by omega, by go_num, by rw [← HQ.out, HNS.out]; exact hb6, hbl5.trans hbl6⟩
          · have HNS : Hid (numS dg x = s) := Lib.hid (by rw [hs]; unfold numS; rw [if_neg hd])
            rw [HNS.out] at HL2
            have hlen := HL2.out
            clear hs HN
            have hbd : (T ++ sep).length + s.length ≤ 140737488355328 := by rw [List.length_append]; omega
            go_wp2_with fail
            refine (writeString B b (T ++ sep) s w3 hb3' hbd hBr3).mono ?_
            rintro e w6 ⟨rfl, hb6, hbl6⟩
            go_wp2_with fail
            go_roundg (gk - 1)
            case measure => omega
            case rel => exact ⟨k + 1, by omega, by go_num, by rw [← HQ.out, HNS.out]; exact hb6, hbl3.trans hbl6⟩
      · obtain rfl : k = xs.length := by omega
        have HE : Hid (xs.take xs.length = xs) := Lib.hid List.take_length
        rw [HE.out] at hb
        go_wp2_with fail
        go_ret
        exact ⟨rfl, hb, hbl⟩
end Go.Proofs.YtlmilelopajdiaaGreatDoor
