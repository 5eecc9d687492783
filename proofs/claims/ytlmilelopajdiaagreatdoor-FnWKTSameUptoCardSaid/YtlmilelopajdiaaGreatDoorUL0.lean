/-
  What the row lists of the package's variables gives the tables as cells.
-/
import Derived.Test.YtlmilelopajdiaaGreatDoorUA1
import Derived.Test.YtlmilelopajdiaaGreatDoorRows
import Derived.Stop.LaidErr
import Derived.ChangeArms
import Derived.ChangeSame
import Derived.OpenShut
import Derived.ProofKit
import Derived.Lay
import Derived.Deep.DeepHandedRow
namespace Go.Proofs.YtlmilelopajdiaaGreatDoor
open Go.RowKit Go.ChangeShapes

theorem laid_head {n : String} {d : DataW Unit} {r : List (String × DataW Unit)} {W : World} {g : Nat} {t : TypeId} (hg : Tryz.prog.globalNamed n = some g) (ht : (Tryz.prog.globals[g]?).map (·.type) = some t) (h : laidMet Tryz.prog ((n, d) :: r) W) :
    ∃ cs fuel p, W.var? Tryz.prog n = some cs ∧ DataW.trod (fun _ => ()) Tryz.prog W 0 (fun _ => true) false fuel t cs.toList = some (d, p) := by
  obtain ⟨ps, ⟨g', t', cs, fuel, p, q, hg', ht', hvar, hd, _⟩, _⟩ := h
  obtain rfl := Option.some.inj (hg.symm.trans hg')
  obtain rfl := Option.some.inj (ht.symm.trans ht')
  exact ⟨cs, fuel, p, hvar, hd⟩
theorem g0 : Tryz.prog.globalNamed "internal/strconv.optimize" = some 0 := by kernel_rfl
theorem g1 : Tryz.prog.globalNamed "internal/strconv.uint64pow10" = some 1 := by kernel_rfl
theorem g2 : Tryz.prog.globalNamed "internal/strconv.pow10Tab" = some 2 := by kernel_rfl
theorem g3 : Tryz.prog.globalNamed "internal/strconv.leftcheats" = some 3 := by kernel_rfl
theorem g5 : Tryz.prog.globalNamed "math/bits.deBruijn64tab" = some 5 := by kernel_rfl
theorem t0 : (Tryz.prog.globals[0]?).map (·.type) = some 4 := by kernel_rfl
theorem t1 : (Tryz.prog.globals[1]?).map (·.type) = some 196 := by kernel_rfl
theorem t2 : (Tryz.prog.globals[2]?).map (·.type) = some 205 := by kernel_rfl
theorem t3 : (Tryz.prog.globals[3]?).map (·.type) = some 212 := by kernel_rfl
theorem t5 : (Tryz.prog.globals[5]?).map (·.type) = some 218 := by kernel_rfl
theorem c204 : Tryz.prog.cellsOf 204 = 2 := by kernel_rfl
theorem c211 : Tryz.prog.cellsOf 211 = 2 := by kernel_rfl
theorem c162 : Tryz.prog.cellsOf 162 = 1 := by kernel_rfl
theorem c9 : Tryz.prog.cellsOf 9 = 1 := by kernel_rfl
theorem c3' : Tryz.prog.cellsOf 3 = 1 := by kernel_rfl
theorem c5' : Tryz.prog.cellsOf 162 = 1 := by kernel_rfl
theorem c196 : Tryz.prog.cellsOf 196 = 20 := by kernel_rfl

section
variable {W : World}
theorem opt_of {cs : Array Value} {fuel : Nat} {p : List MemPlace} (hvar : W.var? Tryz.prog "internal/strconv.optimize" = some cs) (h : DataW.trod (fun _ => ()) Tryz.prog W 0 (fun _ => true) false fuel 4 cs.toList = some (.lit (.bool true), p)) : W.cell? ⟨0, 0, none⟩ = some (.bool true) := by
  obtain ⟨b, h1, h2⟩ := DataW.trod_bool Tryz.underlying4 h
  injection h2 with h2 _
  injection h2 with h2
  injection h2 with h2
  have := World.var?_cell g0 hvar 0
  rw [this]
  have h3 : cs[0]? = cs.toList[0]? := by simp
  rw [h3, h1, h2]; rfl
set_option maxRecDepth 100000 in
theorem p10_of {cs : Array Value} {fuel : Nat} {p : List MemPlace} (hvar : W.var? Tryz.prog "internal/strconv.pow10Tab" = some cs) (h : DataW.trod (fun _ => ()) Tryz.prog W 0 (fun _ => true) false fuel 205 cs.toList = some (Go.Pinned.pow10Tab, p)) (i : Nat) (hi : i < 696) :
    W.cell? ⟨2, i * 2, none⟩ = some (.int .u64 (phi ((i : Int) - 348))) ∧ W.cell? ⟨2, i * 2 + 1, none⟩ = some (.int .u64 (plo ((i : Int) - 348))) := by
  obtain ⟨xs, m, _, hx, _, hxl, hxi⟩ := DataW.trod_array Tryz.underlying205 h
  rw [c204] at hxi
  have h1 := hxi i hi
  obtain ⟨y, hy⟩ : ∃ y, xs[i]? = some y := ⟨_, List.getElem?_eq_getElem (by omega)⟩
  rw [hy] at h1
  injection hx with hx _
  unfold Go.Pinned.pow10Tab at hx
  injection hx with hx
  have hlen := p10_len
  obtain ⟨row, hrow⟩ : ∃ row, Go.Pinned.pow10Rows[i]? = some row := ⟨_, List.getElem?_eq_getElem (by omega)⟩
  have h2 := congrArg (fun l => l[i]?) hx
  simp only [List.getElem?_map, hrow, hy, Option.map_some, Option.some.injEq] at h2
  obtain ⟨y0, y1, n, e1, e2, e3, e4⟩ := trod_struct2 Tryz.underlying204 h1
  obtain ⟨v0, f1, f2, _⟩ := DataW.trod_int Tryz.underlying162 e3
  obtain ⟨v1, f3, f4, _⟩ := DataW.trod_int Tryz.underlying162 e4
  rw [e1] at h2
  injection h2 with h2
  injection h2 with a1 a2
  injection a2 with a2 _
  rw [f2] at a1
  rw [f4] at a2
  injection a1 with a1
  injection a1 with _ a1
  injection a2 with a2
  injection a2 with _ a2
  have hp : p10row ((i : Int) - 348) = row := by
    unfold p10row
    rw [show ((i : Int) - 348 + 348).toNat = i by omega, hrow]; rfl
  have k0 := World.var?_cell g2 hvar (i * 2)
  have k1 := World.var?_cell g2 hvar (i * 2 + 1)
  have q0 := congrArg (fun l => l[0]?) f1
  have q1 := congrArg (fun l => l[0]?) f3
  simp only [c162, List.getElem?_take, List.getElem?_drop] at q0 q1
  refine ⟨?_, ?_⟩
  · rw [k0]
    unfold phi
    rw [hp, a1]
    simpa using q0
  · rw [k1]
    unfold plo
    rw [hp, a2]
    simpa using q1
set_option maxRecDepth 100000 in
theorem cheats_len : Go.Pinned.cheatRows.length = 61 := by decide +kernel
set_option maxRecDepth 100000 in
theorem cheats_of {cs : Array Value} {fuel : Nat} {p : List MemPlace} (hvar : W.var? Tryz.prog "internal/strconv.leftcheats" = some cs) (h : DataW.trod (fun _ => ()) Tryz.prog W 0 (fun _ => true) false fuel 212 cs.toList = some (Go.Pinned.leftcheats, p)) :
    ∃ (b o cap : Nat), b < W.heap.size ∧ W.cell? ⟨3, 0, none⟩ = some (.slice (some ⟨b, o, none⟩) 61 cap) ∧ ∀ k : Nat, k < 61 →
    W.cell? ⟨b, o + k * 2, none⟩ = some (.int .i64 ((cheat k).1 : Int)) ∧ W.cell? ⟨b, o + k * 2 + 1, none⟩ = some (.string ⟨(cheat k).2.toArray⟩) := by
  rcases DataW.trod_slice Tryz.underlying212 h with ⟨_, h2⟩ | ⟨a, len, cap, elems, rest, n, _, h2, h3, _, h5, _, h7, h8, _⟩
  · unfold Go.Pinned.leftcheats at h2
    injection h2 with h2 _
    cases h2
  · rw [c211] at h8
    injection h3 with h3 _
    unfold Go.Pinned.leftcheats at h3
    injection h3 with h3 _
    have hlen := cheats_len
    have hel : len = 61 := by
      have := congrArg List.length h3
      rw [List.length_map, List.length_map] at this
      omega
    subst hel
    have hat : ∀ k, k < 61 → W.cell? ((a.add (k * 2)).add 0) = some (.int .i64 ((cheat k).1 : Int)) ∧ W.cell? ((a.add (k * 2)).add 1) = some (.string ⟨(cheat k).2.toArray⟩) := by
      intro k hk
      have h9 := h8 k hk
      obtain ⟨y, hy⟩ : ∃ y, elems[k]? = some y := ⟨_, List.getElem?_eq_getElem (by omega)⟩
      obtain ⟨row, hrow⟩ : ∃ row, Go.Pinned.cheatRows[k]? = some row := ⟨_, List.getElem?_eq_getElem (by omega)⟩
      rw [hy] at h9
      cases hc : W.cells? 0 (a.add (k * 2)) 2 with
      | none => rw [hc] at h9; simp at h9
      | some c =>
        rw [hc] at h9
        simp only [Option.bind_some] at h9
        have hcs := World.cells?_some hc
        have h10 := congrArg (fun l => l[k]?) h3
        simp only [List.getElem?_map, hrow, hy, Option.map_some, Option.some.injEq] at h10
        obtain ⟨y0, y1, n', e1, _, e3, e4⟩ := trod_struct2 Tryz.underlying211 h9
        obtain ⟨v0, f1, f2, _⟩ := DataW.trod_int Tryz.underlying3 e3
        obtain ⟨v1, f3, f4, _⟩ := DataW.trod_string Tryz.underlying9 e4
        rw [e1] at h10
        injection h10 with h10
        injection h10 with a1 a2
        injection a2 with a2 _
        rw [f2] at a1
        rw [f4] at a2
        injection a1 with a1
        injection a1 with _ a1
        injection a2 with a2
        injection a2 with a2
        have hp : cheat k = row := by
          unfold cheat
          rw [hrow]; rfl
        have q0 := congrArg (fun l => l[0]?) f1
        have q1 := congrArg (fun l => l[0]?) f3
        simp only [c3', c9, List.getElem?_take, List.getElem?_drop] at q0 q1
        refine ⟨?_, ?_⟩
        · rw [hcs.2.2 0 (by decide), hp, a1]
          simpa using q0
        · rw [hcs.2.2 1 (by decide), hp, a2]
          simpa using q1
    obtain ⟨b, o, spot⟩ := a
    have hspot : spot = none := by
      have := (hat 0 (by decide)).1
      simpa [Addr.add] using World.cell?_spot this
    subst hspot
    have hadd : ∀ i j : Nat, ((⟨b, o, none⟩ : Addr).add i).add j = ⟨b, o + i + j, none⟩ := fun i j => by rw [Go.WideShapes.add_plain, Go.WideShapes.add_plain]
    refine ⟨b, o, cap, ?_, ?_, fun k hk => ?_⟩
    · have := (hat 0 (by decide)).1
      exact block_lt_of_cell this
    · have := World.var?_cell g3 hvar 0
      rw [this]
      have h11 : cs[0]? = cs.toList[0]? := by simp
      rw [h11, h2]; rfl
    · have := hat k hk
      rw [hadd, hadd] at this
      exact this
set_option maxRecDepth 100000 in
/-- The tables, out of the row's list. -/
theorem tabs_of (h : laidMetH Tryz.prog Rows.fnWKTSameUptoRow.laid W) : Tabs W.heap.size W := by
  have h0 : laidMet Tryz.prog Rows.fnWKTSameUptoRow.laid W := h
  have h1 := h0.tail
  obtain ⟨cs5, _, _, v5, _⟩ := laid_head g5 t5 h1
  have h2 := h1.tail
  obtain ⟨cs0, _, _, v0, d0⟩ := laid_head g0 t0 h2
  have h3 := h2.tail
  have hu : Lib.TabIs Tryz.prog W "internal/strconv.uint64pow10" .u64 Lib.pow10Tab := Lib.tabIs_of_head (rest := _) g1 t1 Tryz.underlying196 Tryz.underlying162 c162 c196 h3
  have h4 := h3.tail
  obtain ⟨cs3, _, _, v3, d3⟩ := laid_head g3 t3 h4
  have h5 := h4.tail
  obtain ⟨cs2, _, _, v2, d2⟩ := laid_head g2 t2 h5
  have hc3 := cheats_of v3 d3
  refine ⟨?_, opt_of v0 d0, hu, fun i hi => p10_of v2 d2 i hi, hc3⟩
  have hb : ∃ o, W.heap[5]? = some o := by
    unfold World.var? at v5
    rw [g5] at v5
    cases hh : W.heap[5]? with
    | none => simp [hh] at v5
    | some o => exact ⟨o, rfl⟩
  obtain ⟨o, ho⟩ := hb
  have := lt_of_block ho
  omega
end
end Go.Proofs.YtlmilelopajdiaaGreatDoor

/-
  A world in which the row's tables lie: the witness.
-/
namespace Go.Proofs.YtlmilelopajdiaaGreatDoor
open Go.RowKit Go.ChangeShapes

noncomputable def laidWorld (os : Os) : World := World.laidAll Tryz.prog os Rows.fnWKTSameUptoRow.laid
def zeroArgs : Array Value := #[.agg #[.int .i64 0, .int .i64 0, .int .i64 0, .slice none 0 0, .slice none 0 0, .slice none 0 0, .slice none 0 0], .int .i64 0]
set_option maxRecDepth 1000000 in
theorem laid_fits (os : Os) : (World.holding Tryz.prog os ⟨#[], #[], []⟩).layFits Tryz.prog Rows.fnWKTSameUptoRow.laid [] = true := by kernel_rfl
set_option maxRecDepth 1000000 in
theorem laid_ifaces (os : Os) : (World.holding Tryz.prog os ⟨#[], #[], []⟩).layIfaces Tryz.prog Rows.fnWKTSameUptoRow.laid (World.laidAll Tryz.prog os Rows.fnWKTSameUptoRow.laid) = true := by kernel_rfl
theorem laid_met (os : Os) : laidMet Tryz.prog Rows.fnWKTSameUptoRow.laid ((laidWorld os).forCall (fun _ _ => 0) ⟨#[], zeroArgs, []⟩).memory := laidMet_laidAll _ (laid_fits os) (laid_ifaces os)
set_option maxRecDepth 1000000 in
theorem laid_zip (os : Os) : ((laidWorld os).forCall (fun _ _ => 0) ⟨#[], zeroArgs, []⟩).variablesZipB Tryz.prog = true := by kernel_rfl
set_option maxRecDepth 1000000 in
theorem laid_rest (os : Os) : ((((laidWorld os).forCall (fun _ _ => 0) ⟨#[], zeroArgs, []⟩).heap.toList.drop Tryz.prog.globals.size).take ((begin Tryz.prog (fun _ _ => 0) default).world.heap.size - Tryz.prog.globals.size)) =
      (begin Tryz.prog (fun _ _ => 0) default).world.heap.toList.drop Tryz.prog.globals.size := by kernel_rfl
theorem laid_shaped (os : Os) : ((laidWorld os).forCall (fun _ _ => 0) ⟨#[], zeroArgs, []⟩).Shaped Tryz.prog := World.shaped_of_ZipB (laid_zip os) (laid_rest os)
set_option maxRecDepth 1000000 in
theorem laid_wide (os : Os) : Input.okWideB Tryz.prog ((laidWorld os).forCall (fun _ _ => 0) ⟨#[], zeroArgs, []⟩) 3 ⟨#[], zeroArgs, []⟩ = true := by kernel_rfl
theorem reads (os : Os) {H : Type} (enc : TypeId × Value → H) : ∃ places, DataW.whole enc Tryz.prog ((laidWorld os).forCall (fun _ _ => 0) ⟨#[], zeroArgs, []⟩).memory Tryz.f3.params.toList Rows.fnWKTSameSpec.vars false zeroArgs.toList 8 = some ([.agg [.lit (.int .i64 0), .lit (.int .i64 0), .lit (.int .i64 0), .nil, .nil, .nil, .nil], .lit (.int .i64 0)], [], places) :=
  ⟨[], by kernel_rfl⟩
end Go.Proofs.YtlmilelopajdiaaGreatDoor
