/-
  FnWKTSame, where what it reads is of bulk at most 1048576: whatever the geometry and the number of digits, the law returns true, and both read as they did: the tied card.
-/
import Derived.Test.YtlmilelopajdiaaGreatDoorUK8
import Derived.Test.YtlmilelopajdiaaGreatDoorUL0
import Derived.Test.YtlmilelopajdiaaGreatDoorCards
import Derived.Test.YtlmilelopajdiaaGreatDoorTie
import Derived.WalkKit
import Derived.ProofKit
import Derived.OpenShut
import Derived.Carry
import Derived.Deep.DeepHandedRow
namespace Go.Proofs.YtlmilelopajdiaaGreatDoor
open Go.ChangeShapes Go.WideShapes Go.ChangeAt Go.RowKit

theorem own : ownKnob Tryz.prog.godebug = none := by kernel_rfl
theorem laidOut : laidOutB Tryz.prog = true := by kernel_rfl
theorem laid_plain : laidMetH Tryz.prog Rows.fnWKTSameUptoRow.laid = laidMet Tryz.prog Rows.fnWKTSameUptoRow.laid := by
  funext W
  rfl
set_option maxRecDepth 100000 in
/-- What the walk gives, for every argument of that bulk and every world that holds the tables. -/
theorem contract (H : Type) (enc : TypeId × Value → H) (W : World) (base : Nat) (args : Array Value) (ds gs : List (DataW H)) (before : List MemPlace)
    (hval : ∀ (j : Nat) t v, Tryz.f3.params[j]? = some t → args[j]? = some v → Value.okWide Tryz.prog W .any base t v)
    (hW : DataW.Whole enc Tryz.prog Tryz.f3.params.toList Rows.fnWKTSameSpec.vars false W args.toList ds gs before) (hk : Rows.uptoSmall H (ds ++ gs) = true) (hL : laidMetH Tryz.prog Rows.fnWKTSameUptoRow.laid W) :
    Calls Tryz.prog 3 args W fun e W' => ∃ v, e = .returned v ∧ Rows.fnWKTSameSpec.post enc Tryz.prog Tryz.f3 false true false false W args v W' := by
  have hW' := hW
  obtain ⟨p, q, hA0, hV, rfl, _, _⟩ := hW
  have hA : DataW.TrodAll enc Tryz.prog W 0 (fun _ => true) true Tryz.f3.params.toList args.toList ds p := hA0
  rw [Tryz.params3] at hA hval
  obtain ⟨v0, v1, d0, d1, p0, p1, rfl, rfl, rfl, h0, h1⟩ := trodAll_two hA
  obtain ⟨rfl, rfl⟩ := trodVars_none hV
  obtain ⟨dg, rfl, rfl, rfl, hwf⟩ := open_int Tryz.underlying3 (hval 1 3 v1 rfl rfl) h1
  obtain ⟨cs, rfl, _⟩ := okWide_struct Tryz.underlying27 (hval 0 27 v0 rfl rfl)
  have h0k := h0
  obtain ⟨fuel, hf⟩ := h0
  clear hA0
  simp only [List.append_nil] at hW' hk
  have hbulk : Rows.uptoBulk d0 ≤ 1048576 := by
    unfold Rows.uptoSmall at hk
    rw [decide_eq_true_iff] at hk
    simp only [Rows.uptoBulkAll] at hk
    exact Nat.le_trans (Nat.le_add_right _ _) hk
  obtain ⟨g, har, hwfi, hflo, hwt⟩ := read_geom fuel cs.toList (d0, p0) hf hbulk
  have hlt : ∀ x ∈ p0, x.block < W.heap.size := fun x hx => by simpa using hW'.lt x hx
  have hargs : ∀ (W' : World), Below W.heap.size W W' → DataW.Trod enc Tryz.prog W' 0 (fun b => decide (b < W.heap.size)) true 27 (.agg cs) d0 p0 :=
    fun W' hn => Below.trod laidOut (by kernel_rfl) (of_decide_eq_true (by kernel_rfl)) h0k hn hlt
  have hwalk := lawWalk g W cs.toList har hwfi hflo (by have : Rows.uptoBulk (d0, p0).1 = Rows.uptoBulk d0 := rfl; omega) (tabs_of hL) dg
  refine hwalk.mono fun e W' ⟨he, hb⟩ => ?_
  subst he
  refine ⟨_, rfl, _, _, _, [], p0, [], hW', trodAll_mk1 (shut_bool Tryz.underlying4 _), ?_, rfl, hb.frame _, fun h => by cases h⟩
  have := trodAll_mk2 (hargs W' hb) (shut_int (enc := enc) (w := W') (base := 0) (spare := fun b => decide (b < W.heap.size)) (held := true) Tryz.underlying3 hwf)
  rw [List.append_nil] at this
  exact this

set_option maxRecDepth 100000 in
theorem witness (os : Os) {H : Type} (enc : TypeId × Value → H) : ∃ (w : World) (tape : Tape) (i : Input), w.os = os ∧ (w.forCall tape i).Shaped Tryz.checked.prog ∧ i.vars = [] ∧ Input.okWide Tryz.checked.prog (w.forCall tape i) .any w.heap.size 3 i ∧
      (Rows.OpenSpec.upto Rows.fnWKTSameSpec).preRow enc Tryz.checked.prog Tryz.f3 Rows.fnWKTSameUptoRow.domain false Rows.fnWKTSameUptoRow.laid (w.forCall tape i).memory i.args ∧ ({} : Assume).holds Tryz.checked.prog (lone (Frame.enter Tryz.checked.prog 3 i.args .normal) [] (w.forCall tape i)) := by
  obtain ⟨places, hx⟩ := reads os enc
  exact ⟨laidWorld os, fun _ _ => 0, ⟨#[], zeroArgs, []⟩, World.laidAll_os _ _ _, laid_shaped os, (Input.okWide_of_okWideB (base := 0) (laid_wide os)).1, (Input.okWide_of_okWideB (laid_wide os)).2,
    OpenSpec.preRow_of_cond 8 hx (by kernel_rfl) (fun k hk => by cases hk; kernel_rfl) (by kernel_rfl) (laid_met os), by
    simp only [Assume.holds]
    exact ⟨by simp, by simp, fun _ => Modest.zero, by simp, by simp⟩⟩
set_option maxRecDepth 100000 in
theorem liftedUpto (os : Os) (started : os.Started) (H : Type) (enc : TypeId × Value → H) (F : Stop.Interp) :
    ReturnsInHanded {} Tryz.checked os 3 .any ((Rows.OpenSpec.upto Rows.fnWKTSameSpec).preRow enc Tryz.prog Tryz.f3 Rows.fnWKTSameUptoRow.domain false Rows.fnWKTSameUptoRow.laid) (((Rows.OpenSpec.upto Rows.fnWKTSameSpec).at F).post enc Tryz.prog Tryz.f3 false true false false) := by
  refine returnsInHanded_of_row (C := Tryz.checked) (s := Rows.OpenSpec.upto Rows.fnWKTSameSpec) own started (by kernel_rfl) Tryz.func3 (witness os enc) ?_
  intro W base args ds gs before hval hW _ hcond _ hL _ _
  exact contract H enc W base args ds gs before hval hW (hcond _ rfl) hL

set_option maxRecDepth 100000 in
theorem saidUpto : Rows.FnWKTSameUptoSaid :=
  OpenClaim.holds_of_cond 3 Tryz.f3 rfl rfl rfl rfl rfl rfl rfl ⟨rfl, rfl, rfl, rfl, rfl⟩ rfl rfl rfl rfl rfl (by kernel_rfl) Tryz.func3 (by kernel_rfl)
    (of_decide_eq_true (by kernel_rfl)) (by unfold Func.isWrapper; first | (rw [if_pos (by decide +kernel)]; kernel_rfl) | (rw [if_neg (by decide +kernel)]; exact ⟨rfl, rfl⟩))
    (fun os started H enc _ F => by rw [OpenClaim.pre_eq_preRow]; exact liftedUpto os started H enc F)

/-- No parameter wants a stand-in; what the program's own looks are. -/
theorem plain (f : FuncId) (fn : Func) (hf : Tryz.pinned.checked.prog.funcNamed "pub-orthodrome/laws.FnWKTSame" = some f) (hfn : Tryz.pinned.checked.prog.funcs[f]? = some fn) :
    true = Tryz.pinned.checked.prog.looks [] ∧ ∀ (j : Nat) t, fn.params[j]? = some t → Tryz.pinned.checked.prog.wantsStandIn t = false := by
  obtain rfl : f = 3 := Option.some.inj ((show Tryz.prog.funcNamed "pub-orthodrome/laws.FnWKTSame" = some 3 by kernel_rfl).symm.trans hf) |>.symm
  obtain rfl : fn = Tryz.f3 := (Option.some.inj (Tryz.func3.symm.trans hfn)).symm
  refine ⟨by kernel_rfl, fun j t ht => ?_⟩
  rw [Tryz.params3] at ht
  have hm : t = 27 ∨ t = 3 := by simpa using Array.mem_of_getElem? ht
  rcases hm with rfl | rfl
  · exact (show Tryz.prog.wantsStandIn 27 = false by kernel_rfl)
  · exact (show Tryz.prog.wantsStandIn 3 = false by kernel_rfl)

theorem cardUpto : Rows.FnWKTSameUptoCardSaid :=
  Claim7.holds_tied_plain_at .later [] _ _ _ _ saidUpto (fun _ h => by cases h) (by kernel_rfl) (fun _ h => by cases h) fnWKTSameUpto_row_tie rfl ⟨rfl, rfl⟩ (by kernel_rfl) rfl plain (by kernel_rfl)
#print axioms cardUpto
end Go.Proofs.YtlmilelopajdiaaGreatDoor
