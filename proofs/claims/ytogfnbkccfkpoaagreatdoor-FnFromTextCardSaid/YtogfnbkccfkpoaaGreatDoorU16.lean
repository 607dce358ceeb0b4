/- laws.FnFromText: the row and its tied card: whatever the text, the call answers true. Conditions: what the row lists, tied to the program by the card. -/
import Derived.Test.YtogfnbkccfkpoaaGreatDoorU15
import Derived.Test.YtogfnbkccfkpoaaGreatDoorChecked
import Derived.Test.YtogfnbkccfkpoaaGreatDoorTie
import Derived.Test.YtogfnbkccfkpoaaGreatDoorCards
import Derived.ProofKit
import Derived.ChangeMaps5
import Derived.LaidMore
import Derived.OpenShut
import Derived.Stop.Joined
import Derived.Stop.LaidErr
import Derived.Lib.LaidTab
import Derived.SevenTiedAt
set_option maxRecDepth 100000
namespace Go.Proofs.YtogfnbkccfkpoaaGreatDoor
open Go Go.ChangeShapes Go.WideShapes Go.ChangeAt Go.RowKit Go.ChangeMaps
namespace Fin
theorem own : ownKnob Tryz.prog.godebug = none := by kernel_rfl
theorem g0 : Tryz.prog.globalNamed "given.example/pub-carr/pub/cascadia.errExpectedParenthesis" = some 0 := by kernel_rfl
theorem g1 : Tryz.prog.globalNamed "given.example/pub-carr/pub/cascadia.errExpectedClosingParenthesis" = some 1 := by kernel_rfl
theorem g2 : Tryz.prog.globalNamed "given.example/pub-carr/pub/cascadia.errUnmatchedParenthesis" = some 2 := by kernel_rfl
theorem g5 : Tryz.prog.globalNamed "strconv.ErrRange" = some 5 := by kernel_rfl
theorem g6 : Tryz.prog.globalNamed "internal/strconv.uint64pow10" = some 6 := by kernel_rfl
theorem t0 : (Tryz.prog.globals[0]?).map (·.type) = some 44 := by kernel_rfl
theorem t1 : (Tryz.prog.globals[1]?).map (·.type) = some 44 := by kernel_rfl
theorem t2 : (Tryz.prog.globals[2]?).map (·.type) = some 44 := by kernel_rfl
theorem t5 : (Tryz.prog.globals[5]?).map (·.type) = some 44 := by kernel_rfl
theorem star : "*" ++ "errors.errorString" = "*errors.errorString" := by decide
theorem row73 (u : TypeId) (h : Tryz.prog.typeName? 3 u = some "*errors.errorString") : u = 73 :=
 typeName_ptr_named (nm := "errors.errorString") (by rw [star]; kernel_rfl) kR dC u (by rw [star]; exact h)
theorem c75 : Tryz.prog.cellsOf 75 = 1 := by kernel_rfl
theorem c9 : Tryz.prog.cellsOf 9 = 1 := by kernel_rfl
theorem keptBut_of_grown {w w' : World} (h : w.grownBy w' none) (may : MemPlace → Prop) : w.keptBut w' may := by
 refine ⟨h.os, h.output, fun i hi => ?_⟩
 rw [h.block i hi (by simp)]
 cases w.heap[i]? with
 | none => rfl
 | some o => cases o <;> first | exact ⟨rfl, rfl, rfl, fun _ _ => rfl⟩ | exact .inr ⟨rfl, rfl⟩ | rfl
theorem var_grown {w w' : World} (h : w.grownBy w' none) {n : String} {cs : Array Value} (hv : w.var? Tryz.prog n = some cs) : w'.var? Tryz.prog n = some cs := by
 unfold World.var? at hv ⊢
 cases hg : Tryz.prog.globalNamed n with
 | none => simp [hg] at hv
 | some g =>
  simp only [hg, Option.bind_some] at hv ⊢
  have hlt : g < w.heap.size := by
   rcases Nat.lt_or_ge g w.heap.size with h' | h'
   ·exact h'
   simp [Array.getElem?_eq_none h'] at hv
  rw [h.block g hlt (by simp)]
  exact hv
theorem vars_read {H : Type} (enc : TypeId × Value → H) {W : World} {x0 x1 x2 : Value} (h0 : W.var? Tryz.prog "given.example/pub-carr/pub/cascadia.errExpectedParenthesis" = some #[x0]) (h1 : W.var? Tryz.prog "given.example/pub-carr/pub/cascadia.errExpectedClosingParenthesis" = some #[x1]) (h2 : W.var? Tryz.prog "given.example/pub-carr/pub/cascadia.errUnmatchedParenthesis" = some #[x2]) (i0 : IsIface x0) (i1 : IsIface x1) (i2 : IsIface x2) (sp : Nat → Bool) :
 DataW.TrodVars enc Tryz.prog W sp Rows.fnFromTextSpec.vars [tok enc x0, tok enc x1, tok enc x2] [.cell 0 0, .cell 1 0, .cell 2 0] :=
 ⟨0, 44, #[x0], 1, [], [.cell 1 0, .cell 2 0], g0, t0, h0, trod_held Tryz.underlying44 i0 0, ⟨1, 44, #[x1], 1, [], [.cell 2 0], g1, t1, h1, trod_held Tryz.underlying44 i1 0, ⟨2, 44, #[x2], 1, [], [], g2, t2, h2, trod_held Tryz.underlying44 i2 0, rfl, rfl⟩, rfl⟩, rfl⟩
theorem door_met (os : Os) (args : Array Value) : laidMetH Tryz.prog Rows.fnFromTextRow.laid ((World.doorLaid Tryz.prog 124 os).forCall (fun _ _ => 0) ⟨#[], args, []⟩).memory :=
 laidMetH_of_parts3 (fuel := 8) (laidMet_of_run' 8 kR kR) kR kR
theorem lifted (os : Os) (started : os.Started) (H : Type) (enc : TypeId × Value → H) :
 ReturnsInHanded {} Tryz.checked os 3 .any (fun w args => (Rows.fnFromTextSpec.pre enc Tryz.prog Tryz.f3 [] false w args ∧ laidMetH Tryz.prog Rows.fnFromTextRow.laid w) ∧ sizedMet enc Tryz.prog Tryz.f3 (OpenSpec.ofChange Rows.fnFromTextSpec) false w args)
  (Rows.fnFromTextSpec.post enc Tryz.prog Tryz.f3 false true false false) := by
 refine returnsInHanded_of_change_and (C := Tryz.checked) (X := fun w _ => laidMetH Tryz.prog Rows.fnFromTextRow.laid w) (fun _ _ _ hh h => h.of_heap hh) own started kR Tryz.func3
  (ChangeSpec.witness_shaped (enc := enc) (C := Tryz.checked) (os := os) (X := fun w _ => laidMetH Tryz.prog Rows.fnFromTextRow.laid w) false (World.doorLaid Tryz.prog 124 os) #[.string ⟨#[]⟩] 8 rfl (World.shaped_of_RefB kR kR) kR kR kR (door_met os _)) ?_
 intro W base args ds gs before hval0 hW _ _ hL _
 have hval : ∀ (j : Nat) t v, Tryz.f3.params[j]? = some t → args[j]? = some v → Value.okWide Tryz.prog W .any base t v := hval0
 have hW' := hW
 obtain ⟨p, q, hA0, hV0, rfl, hfz, hnd⟩ := hW
 have hA : DataW.TrodAll enc Tryz.prog W 0 (fun _ => true) true Tryz.f3.params.toList args.toList ds p := hA0
 have hV : DataW.TrodVars enc Tryz.prog W (fun _ => true) Rows.fnFromTextSpec.vars gs q := hV0
 rw [Tryz.params3] at hA hval
 obtain ⟨v0, d0, rfl, rfl, h0⟩ := trodAll_one hA
 obtain ⟨s, rfl, rfl, rfl, hs⟩ := open_string Tryz.underlying9 (hval 0 9 v0 rfl rfl) h0
 rw [MakeChecks.laidMetH_plain _ _ _ kR] at hL
 have hTab : TABs W := Lib.tabIs_of_head (k := .u64) (zs := Lib.pow10Tab) (g := 6) (t := 184) (e := 154) (n := 20) kR kR kR kR kR kR (show laidMet Tryz.prog (("internal/strconv.uint64pow10", Lib.tabData .u64 Lib.pow10Tab) :: _) W from hL.tail.tail)
 have hE := hL.tail.tail.tail
 obtain ⟨a5, s5, hv5, -, -, -⟩ := laid_sentinel hE g5 t5 Tryz.underlying44 row73 Tryz.underlying73 Tryz.underlying75 rfl rfl Tryz.underlying9 c75 c9
 obtain ⟨a0, s0, hv0, -, -, -⟩ := laid_sentinel hE.tail.tail g0 t0 Tryz.underlying44 row73 Tryz.underlying73 Tryz.underlying75 rfl rfl Tryz.underlying9 c75 c9
 obtain ⟨a1, s1, hv1, -, -, -⟩ := laid_sentinel hE.tail.tail.tail g1 t1 Tryz.underlying44 row73 Tryz.underlying73 Tryz.underlying75 rfl rfl Tryz.underlying9 c75 c9
 obtain ⟨a2, s2, hv2, -, -, -⟩ := laid_sentinel hE.tail.tail.tail.tail g2 t2 Tryz.underlying44 row73 Tryz.underlying73 Tryz.underlying75 rfl rfl Tryz.underlying9 c75 c9
 obtain ⟨rfl, rfl⟩ := hV.unique (vars_read enc hv0 hv1 hv2 trivial trivial trivial _)
 clear hA0 hV0 hval0
 have hR : RNG W.heap.size W := by
  refine ⟨?_, fun k hk => ?_⟩
  ·have h := World.var?_cell g6 hTab 0
   have hlt : 6 < W.heap.size := by
    rcases Nat.lt_or_ge 6 W.heap.size with h' | h'
    ·exact h'
    unfold World.cell? at h
    rw [Array.getElem?_eq_none h'] at h
    cases h
   omega
  rcases hk with rfl | rfl | rfl | rfl
  ·exact ⟨_, _, by simpa using World.var?_cell g0 hv0 0⟩
  ·exact ⟨_, _, by simpa using World.var?_cell g1 hv1 0⟩
  ·exact ⟨_, _, by simpa using World.var?_cell g2 hv2 0⟩
  exact ⟨_, _, by simpa using World.var?_cell g5 hv5 0⟩
 have hC := FnFromText_calls s.data.toList W hR hTab (fun _ => law _)
 have hC' : Calls Tryz.prog 3 #[.string s] W fun e w' => ∃ v, e = .returned v ∧ v = .bool true ∧ Gr W w' none := hC
 refine hC'.mono fun e W' ⟨v, he, hv, hg⟩ => ?_
 subst he; subst hv
 refine ⟨_, rfl, _, _, _, [], [], [.cell 0 0, .cell 1 0, .cell 2 0], hW', ?_, ?_, ?_, keptBut_of_grown hg _, fun h => by cases h⟩
 ·exact trodAll_mk1 (shut_bool Tryz.underlying4 true)
 ·exact trodAll_mk1 (shut_string Tryz.underlying9 hs)
 exact vars_read enc (var_grown hg hv0) (var_grown hg hv1) (var_grown hg hv2) trivial trivial trivial _
theorem row_holds : Rows.FnFromTextSaid :=
 OpenClaim.holds_of_wide 3 Tryz.f3 rfl rfl rfl rfl rfl rfl rfl ⟨rfl, rfl, rfl, rfl, rfl⟩ rfl rfl rfl rfl rfl kR Tryz.func3 kR
  (of_decide_eq_true kR) (by unfold Func.isWrapper; first | (rw [if_pos (by decide +kernel)]; kernel_rfl) | (rw [if_neg (by decide +kernel)]; exact ⟨rfl, rfl⟩))
  (fun os started H enc _ => lifted os started H enc)
end Fin
theorem fnFromText_holds : Rows.FnFromTextCardSaid :=
 Claim7.holds_tied_plain_at .later [] [.data, .data, .data, .sentinel, .sentinel, .sentinel, .sentinel, .sentinel] true (true, "54a9b2a0a61d03053413e873ed51b85d1d7935363cf92bbfc6bfeb8ac8a4c45f") true
  Fin.row_holds (fun _ h => by cases h) kR (fun _ h => by cases h) fnFromText_row_tie rfl ⟨rfl, rfl⟩ kR rfl
  (fun f fn hf hfn => by
   obtain rfl : f = 3 := Option.some.inj ((show Tryz.prog.funcNamed "given.example/pub-carr/laws.FnFromText" = some 3 by kernel_rfl).symm.trans hf) |>.symm
   obtain rfl : fn = Tryz.f3 := (Option.some.inj (Tryz.func3.symm.trans hfn)).symm
   exact ⟨by kernel_rfl, fun j t ht => by
    rw [Tryz.params3] at ht
    have hm : t ∈ [9] := by simpa using Array.mem_of_getElem? ht
    have hall : ([9].all fun u => !Tryz.prog.wantsStandIn u) = true := by kernel_rfl
    exact (show Tryz.prog.wantsStandIn t = false by simpa using List.all_eq_true.1 hall t hm)⟩)
  kR
#print axioms fnFromText_holds
end Go.Proofs.YtogfnbkccfkpoaaGreatDoor
