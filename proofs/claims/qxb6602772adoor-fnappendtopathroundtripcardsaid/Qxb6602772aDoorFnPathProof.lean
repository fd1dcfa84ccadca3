/-
  Rows.FnAppendToPathRoundTripCardSaid: the row, and the tied card round it.
-/
import Derived.Test.Qxb6602772aDoorCards
import Derived.Test.Qxb6602772aDoorTie
import Derived.Test.Qxb6602772aDoorRest
import Derived.Lib.LaidTab
import Derived.ProofKit
import Derived.SliceStrings
import Derived.LaidMore
import Derived.LaidLaws
import Derived.Stop.Joined
import Derived.Stop.LaidErr
import Derived.OpenShut
import Derived.ChangeOld
import Derived.Carry
import Derived.SevenTiedAt
namespace Go.Proofs.Qxb6602772aDoor.fnPath
open Go.ChangeShapes Go.WideShapes Go.ChangeAt Go.RowKit

theorem own : ownKnob Tryd.prog.godebug = none := by kernel_rfl
theorem laidOut : laidOutB Tryd.prog = true := by kernel_rfl
theorem cells9 : Tryd.prog.cellsOf 9 = 1 := by kernel_rfl
theorem cells3 : Tryd.prog.cellsOf 3 = 1 := by kernel_rfl
abbrev laid3 : List (String × DataW Unit) := Rows.fnAppendToPathRoundTripRow.laid

theorem tab_of_laid {W : World} (h : laidMetH Tryd.prog laid3 W) : Lib.TabIs Tryd.prog W Tryd.powName .u64 Lib.pow10Tab := by
  rw [MakeChecks.laidMetH_plain _ _ _ (by kernel_rfl)] at h
  exact Lib.tabIs_of_head (g := 0) (t := 45) (rest := []) (by kernel_rfl) (by kernel_rfl) Tryd.underlying45 Tryd.underlying28 (by kernel_rfl) (by kernel_rfl) h.tail.tail

theorem door_met (os : Os) (args : Array Value) : laidMetH Tryd.prog laid3 ((World.doorLaid Tryd.prog 400 os).forCall (fun _ _ => 0) ⟨#[], args, []⟩).memory :=
  laidMetH_of_parts3 (fuel := 8) (laidMet_of_run' 8 (by kernel_rfl) (by kernel_rfl)) (by kernel_rfl) (by kernel_rfl)

/-- A slice of strings that came in: it is empty, or its cells are the strings ss. -/
def NamesAre (w : World) (a : Option Addr) (N : Nat) (ss : List ByteArray) : Prop :=
  N = 0 ∨ ∃ b o, a = some ⟨b, o, none⟩ ∧ ss.length = N ∧ StrsAre w b o ss ∧ ∀ s ∈ ss, s.size ≤ 9223372036854775807
/-- A slice of ints that came in. -/
def IdxsAre (w : World) (a : Option Addr) (M : Nat) (zs : List Int) : Prop :=
  M = 0 ∨ ∃ b o, a = some ⟨b, o, none⟩ ∧ zs.length = M ∧ IntsAre w b o zs ∧ ∀ z ∈ zs, -9223372036854775808 ≤ z ∧ z ≤ 9223372036854775807

/-- The whole function, at whatever input. -/
theorem whole (a1 a2 : Option Addr) (N c1 M c2 : Nat) (hN : N ≤ 9223372036854775807) (hM : M ≤ 9223372036854775807) (ss : List ByteArray) (zs : List Int) (w : World) (hA : NamesAre w a1 N ss) (hB : IdxsAre w a2 M zs)
    (htab : Lib.TabBelow Tryd.prog w.heap.size w Tryd.powName .u64 Lib.pow10Tab) :
    Calls Tryd.prog 3 #[.slice a1 N c1, .slice a2 M c2] w fun e w' => e = .returned (.bool true) ∧ Below w.heap.size w w' := by
  rcases hA with rfl | ⟨nb, no, rfl, hl, hr, hss⟩
  · exact law_none a1 a2 c1 M c2 hM w
  · by_cases hlong : 65536 < N ∨ 65536 < M ∨ 1048576 < 8 * M + 16 * N
    · exact law_long nb no c1 N a2 M c2 hM hN hlong ss hl hss w hr
    · by_cases hne : N = M
      · subst hne
        rcases hB with rfl | ⟨ib, io, rfl, hz, hi, hzs⟩
        · exact law_none _ a2 c1 0 c2 hM w
        · by_cases h0 : N = 0
          · subst h0
            exact law_none _ _ c1 0 c2 hM w
          · exact law_main nb no c1 ib io c2 N ss zs hl hz (by omega) (by omega) hss hzs w hr hi htab
      · exact law_uneven nb no c1 N a2 M c2 (by omega) (by omega) (by omega) hne ss hl hss w hr

set_option maxRecDepth 100000 in
theorem lifted (os : Os) (started : os.Started) (H : Type) (enc : TypeId × Value → H) :
    ReturnsInHanded {} Tryd.checked os 3 .any (fun w args => (Rows.fnAppendToPathRoundTripSpec.pre enc Tryd.prog Tryd.f3 [] false w args ∧ laidMetH Tryd.prog laid3 w) ∧ sizedMet enc Tryd.prog Tryd.f3 (OpenSpec.ofChange Rows.fnAppendToPathRoundTripSpec) false w args)
      (Rows.fnAppendToPathRoundTripSpec.post enc Tryd.prog Tryd.f3 false true false false) := by
  refine returnsInHanded_of_change_and (C := Tryd.checked) (X := fun w _ => laidMetH Tryd.prog laid3 w) (fun _ _ _ hh h => h.of_heap hh) own started (by kernel_rfl) Tryd.func3
    (ChangeSpec.witness_shaped (enc := enc) (C := Tryd.checked) (os := os) (X := fun w _ => laidMetH Tryd.prog laid3 w) false (World.doorLaid Tryd.prog 400 os) #[.slice none 0 0, .slice none 0 0] 8 rfl (World.shaped_of_RefB (by kernel_rfl) (by kernel_rfl)) (by kernel_rfl) (by kernel_rfl) (by kernel_rfl) (door_met os _)) ?_
  intro W base args ds gs before hval0 hW _ _ hL _
  have hval : ∀ (j : Nat) t v, Tryd.f3.params[j]? = some t → args[j]? = some v → Value.okWide Tryd.prog W .any base t v := hval0
  have hW' := hW
  obtain ⟨p, q, hA0, hV, rfl, hfz, hnd⟩ := hW
  have hA : DataW.TrodAll enc Tryd.prog W 0 (fun _ => true) true Tryd.f3.params.toList args.toList ds p := hA0
  rw [Tryd.params3] at hA hval
  obtain ⟨v0, vs0, d0, ds0, p0, q0, hargs, rfl, rfl, h0, r0⟩ := trodAll_cons hA
  obtain ⟨v1, vs1, d1, ds1, p1, q1, rfl, rfl, rfl, h1, r1⟩ := trodAll_cons r0
  obtain ⟨rfl, rfl, rfl⟩ := trodAll_nil r1
  obtain rfl : args = #[v0, v1] := by cases args; simp_all
  obtain ⟨rfl, rfl⟩ := trodVars_none hV
  obtain ⟨a1, N, c1, rfl⟩ := okWide_slice Tryd.underlying22 (hval 0 22 v0 rfl rfl)
  obtain ⟨a2, M, c2, rfl⟩ := okWide_slice Tryd.underlying23 (hval 1 23 v1 rfl rfl)
  have k0 := h0
  have lt0 : ∀ x ∈ p0, x.block < W.heap.size := by obtain ⟨m, hm⟩ := k0; exact DataW.trod_lt m _ _ _ hm
  have k1 := h1
  have lt1 : ∀ x ∈ p1, x.block < W.heap.size := by obtain ⟨m, hm⟩ := k1; exact DataW.trod_lt m _ _ _ hm
  obtain ⟨ss, hN, hT⟩ : ∃ ss, N ≤ 9223372036854775807 ∧ NamesAre W a1 N ss := by
    obtain ⟨fuel, hf⟩ := h0
    rcases open_strings Tryd.underlying22 Tryd.underlying9 cells9 hf with ⟨hcs, _⟩ | ⟨x, l, c, ss, hcs, _, hl, hm, hz, _, hcell, hws⟩
    · simp [Value.cells] at hcs
      obtain ⟨rfl, rfl, rfl⟩ := hcs
      exact ⟨[], by omega, .inl rfl⟩
    · simp [Value.cells] at hcs
      obtain ⟨rfl, rfl, rfl⟩ := hcs
      unfold maxLen at hm hws
      have hz' : ss.length = c1 := by simpa using hz
      by_cases hN0 : N = 0
      · exact ⟨[], by omega, .inl hN0⟩
      · obtain ⟨b, o, sp⟩ := x
        have hc0 := hcell 0 (by omega)
        have hspot : sp = none := by simpa [Addr.add] using World.cell?_spot hc0
        subst hspot
        refine ⟨ss.take N, by omega, .inr ⟨b, o, rfl, by rw [List.length_take]; omega, ?_, fun s hs => by have := hws s (List.mem_of_mem_take hs); omega⟩⟩
        intro j hj
        have hj' : j < ss.length := by rw [List.length_take] at hj; omega
        have := hcell j hj'
        rw [Addr.add_lit] at this
        rw [this, List.getElem_take]
        simp [List.getD, List.getElem?_eq_getElem hj']
  obtain ⟨zs, hM, hI⟩ : ∃ zs, M ≤ 9223372036854775807 ∧ IdxsAre W a2 M zs := by
    obtain ⟨fuel, hf⟩ := h1
    rcases open_ints Tryd.underlying23 Tryd.underlying3 cells3 hf with ⟨hcs, _⟩ | ⟨x, l, c, zs, hcs, _, hl, hm, hz, _, hcell, hwz⟩
    · simp [Value.cells] at hcs
      obtain ⟨rfl, rfl, rfl⟩ := hcs
      exact ⟨[], by omega, .inl rfl⟩
    · simp [Value.cells] at hcs
      obtain ⟨rfl, rfl, rfl⟩ := hcs
      unfold maxLen at hm
      have hz' : zs.length = c2 := by simpa using hz
      by_cases hM0 : M = 0
      · exact ⟨[], by omega, .inl hM0⟩
      · obtain ⟨b, o, sp⟩ := x
        have hc0 := hcell 0 (by omega)
        have hspot : sp = none := by simpa [Addr.add] using World.cell?_spot hc0
        subst hspot
        refine ⟨zs.take M, by omega, .inr ⟨b, o, rfl, by rw [List.length_take]; omega, ?_, fun z hz => ?_⟩⟩
        · intro j hj
          have hj' : j < zs.length := by rw [List.length_take] at hj; omega
          have := hcell j hj'
          rw [Addr.add_lit] at this
          rw [this, List.getElem_take]
          simp [List.getD, List.getElem?_eq_getElem hj']
        · have wn := hwz z (List.mem_of_mem_take hz)
          have e1 : IntKind.i64.min = -9223372036854775808 := rfl
          have e2 : IntKind.i64.max = 9223372036854775807 := rfl
          simp [Lit.wf, e1, e2] at wn
          exact ⟨wn.1, wn.2⟩
  clear hA0 hval0
  refine (whole a1 a2 N c1 M c2 hN hM ss zs W hT hI (Lib.tabBelow_of_tabIs (tab_of_laid hL))).mono fun e W' ⟨he, bel⟩ => ?_
  subst he
  exact ⟨_, rfl, _, _, _, [], _, [], hW', trodAll_mk1 (shut_bool Tryd.underlying4 _), (trodAll_cons_mk (Below.trod laidOut (by kernel_rfl) (of_decide_eq_true (by kernel_rfl)) k0 bel lt0) (trodAll_cons_mk (Below.trod laidOut (by kernel_rfl) (of_decide_eq_true (by kernel_rfl)) k1 bel lt1) trodAll_mk0)), rfl, bel.frame _, fun h => by cases h⟩

theorem over : Rows.FnAppendToPathRoundTripSaid :=
  OpenClaim.holds_of_wide 3 Tryd.f3 rfl rfl rfl rfl rfl rfl rfl ⟨rfl, rfl, rfl, rfl, rfl⟩ rfl rfl rfl rfl rfl (by kernel_rfl) Tryd.func3 (by kernel_rfl)
    (of_decide_eq_true (by kernel_rfl)) (by unfold Func.isWrapper; first | (rw [if_pos (by decide +kernel)]; kernel_rfl) | (rw [if_neg (by decide +kernel)]; exact ⟨rfl, rfl⟩))
    (fun os started H enc _ => lifted os started H enc)

/-- The statement: the tied card. -/
theorem proved : Rows.FnAppendToPathRoundTripCardSaid :=
  Claim7.holds_tied_plain_at .later [] [.data, .data, .data] true Rows.fnAppendToPathRoundTripCard.stood.harness false
    over (fun _ h => by cases h) (by kernel_rfl) (fun _ h => by cases h) fnAppendToPathRoundTrip_row_tie rfl ⟨rfl, rfl⟩ (by kernel_rfl) rfl
    (fun f fn hf hfn => by
      obtain rfl : f = 3 := Option.some.inj ((show Tryd.prog.funcNamed Rows.fnAppendToPathRoundTripRow.func = some 3 by kernel_rfl).symm.trans hf) |>.symm
      obtain rfl : fn = Tryd.f3 := (Option.some.inj (Tryd.func3.symm.trans hfn)).symm
      exact ⟨by kernel_rfl, fun j t ht => by
        rw [Tryd.params3] at ht
        have hm : t ∈ [22, 23] := by simpa using Array.mem_of_getElem? ht
        have hall : ([22, 23].all fun u => !Tryd.prog.wantsStandIn u) = true := by kernel_rfl
        exact (show Tryd.prog.wantsStandIn t = false by simpa using List.all_eq_true.1 hall t hm)⟩)
    (by kernel_rfl)
end Go.Proofs.Qxb6602772aDoor.fnPath
