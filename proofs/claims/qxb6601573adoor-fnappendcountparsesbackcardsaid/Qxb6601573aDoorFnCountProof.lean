/-
  Rows.FnAppendCountParsesBackCardSaid: the row, and the tied card round it.
-/
import Derived.Test.Qxb6601573aDoorCards
import Derived.Test.Qxb6601573aDoorTie
import Derived.Test.Qxb6601573aDoorLaw
import Derived.Lib.LaidTab
import Derived.ProofKit
import Derived.LaidMore
import Derived.LaidLaws
import Derived.Stop.Joined
import Derived.Stop.LaidErr
import Derived.OpenShut
import Derived.ChangeOld
import Derived.Carry
import Derived.SevenTiedAt
namespace Go.Proofs.Qxb6601573aDoor.fnCount
open Go.ChangeShapes Go.WideShapes Go.ChangeAt Go.RowKit
open Go.ChangeMaps (open_string shut_string)

theorem own : ownKnob Tryd.prog.godebug = none := by kernel_rfl
theorem laidOut : laidOutB Tryd.prog = true := by kernel_rfl
theorem cells5 : Tryd.prog.cellsOf 5 = 1 := by kernel_rfl
theorem cells3 : Tryd.prog.cellsOf 3 = 1 := by kernel_rfl
abbrev laid3 : List (String × DataW Unit) := Rows.fnAppendCountParsesBackRow.laid

theorem tab_of_laid {W : World} (h : laidMetH Tryd.prog laid3 W) : Lib.TabIs Tryd.prog W Tryd.powName .u64 Lib.pow10Tab := by
  rw [MakeChecks.laidMetH_plain _ _ _ (by kernel_rfl)] at h
  exact Lib.tabIs_of_head (g := 0) (t := 45) (rest := []) (by kernel_rfl) (by kernel_rfl) Tryd.underlying45 Tryd.underlying34 (by kernel_rfl) (by kernel_rfl) h.tail.tail

theorem door_met (os : Os) (args : Array Value) : laidMetH Tryd.prog laid3 ((World.doorLaid Tryd.prog 400 os).forCall (fun _ _ => 0) ⟨#[], args, []⟩).memory :=
  laidMetH_of_parts3 (fuel := 8) (laidMet_of_run' 8 (by kernel_rfl) (by kernel_rfl)) (by kernel_rfl) (by kernel_rfl)

/-- The whole function, at whatever input. -/
theorem whole (a : Option Addr) (len cap : Nat) (l : List UInt8) (key : ByteArray) (q : Value) (w : World) (hA : ArgIs w a len cap l) (hq : q = .pointer none ∨ ∃ nb no n, q = .pointer (some ⟨nb, no, none⟩) ∧ w.cell? ⟨nb, no, none⟩ = some (.int .i64 n) ∧ -9223372036854775808 ≤ n ∧ n ≤ 9223372036854775807)
    (htab : Lib.TabBelow Tryd.prog w.heap.size w Tryd.powName .u64 Lib.pow10Tab) :
    Calls Tryd.prog 3 #[.slice a len cap, .string key, q] w fun e w' => e = .returned (.bool true) ∧ Below w.heap.size w w' := by
  rcases hq with rfl | ⟨nb, no, n, rfl, hn, hn0, hn1⟩
  · clear hA htab
    by_cases h : len + key.size ≤ 1048576
    · go_enter Tryd.func3, Tryd.ntmps3
      go_wp2_with (go_at_call 4; refine (bytes4_yes _ _ _ _ _ h _).mono ?_; rintro e w' ⟨rfl, rfl⟩)
      go_ret
      exact ⟨rfl, Below.refl _ _⟩
    · go_enter Tryd.func3, Tryd.ntmps3
      go_wp2_with (go_at_call 4; refine (bytes4_no _ _ _ _ _ h _).mono ?_; rintro e w' ⟨rfl, rfl⟩)
      go_ret
      exact ⟨rfl, Below.refl _ _⟩
  · by_cases h : len + key.size ≤ 1048576
    · cases hno : has61 key with
      | false => exact law_main a len cap nb no l key n hn0 hn1 h hno w hA hn htab
      | true =>
        have h5 := fun W => hasByte5 key (by omega) W
        rw [hno] at h5
        have H5 := Lib.hid h5
        clear hA htab hn h5 hno
        go_enter Tryd.func3, Tryd.ntmps3
        go_wp2_with (first | (go_at_call 4; refine (bytes4_yes _ _ _ _ _ h _).mono ?_; rintro e w' ⟨rfl, rfl⟩) | (go_at_call 5; refine (H5.out _).mono ?_; rintro e w' ⟨rfl, rfl⟩))
        go_ret
        exact ⟨rfl, Below.refl _ _⟩
    · clear hA htab hn
      go_enter Tryd.func3, Tryd.ntmps3
      go_wp2_with (go_at_call 4; refine (bytes4_no _ _ _ _ _ h _).mono ?_; rintro e w' ⟨rfl, rfl⟩)
      go_ret
      exact ⟨rfl, Below.refl _ _⟩

/-- The bytes of a row of integers of kind uint8. -/
def bytesOf (zs : List Int) : List UInt8 := zs.map fun z => UInt8.ofNat z.toNat

theorem bytesOf_at (zs : List Int) (hw : ∀ n ∈ zs, (Lit.int .u8 n).wf = true) (j : Nat) (hj : j < zs.length) : Value.int .u8 (((bytesOf zs)[j]'(by simpa [bytesOf] using hj)).toNat : Int) = .int .u8 (zs.getD j 0) := by
  have h := hw _ (List.getElem_mem hj)
  have e1 : IntKind.u8.min = 0 := rfl
  have e2 : IntKind.u8.max = 255 := rfl
  simp [Lit.wf, e1, e2] at h
  have hg : zs.getD j 0 = zs[j] := by simp [List.getD, List.getElem?_eq_getElem hj]
  rw [hg]
  simp only [bytesOf, List.getElem_map, UInt8.toNat_ofNat']
  congr 1
  omega

set_option maxRecDepth 100000 in
theorem lifted (os : Os) (started : os.Started) (H : Type) (enc : TypeId × Value → H) :
    ReturnsInHanded {} Tryd.checked os 3 .any (fun w args => (Rows.fnAppendCountParsesBackSpec.pre enc Tryd.prog Tryd.f3 [] false w args ∧ laidMetH Tryd.prog laid3 w) ∧ sizedMet enc Tryd.prog Tryd.f3 (OpenSpec.ofChange Rows.fnAppendCountParsesBackSpec) false w args)
      (Rows.fnAppendCountParsesBackSpec.post enc Tryd.prog Tryd.f3 false true false false) := by
  refine returnsInHanded_of_change_and (C := Tryd.checked) (X := fun w _ => laidMetH Tryd.prog laid3 w) (fun _ _ _ hh h => h.of_heap hh) own started (by kernel_rfl) Tryd.func3
    (ChangeSpec.witness_shaped (enc := enc) (C := Tryd.checked) (os := os) (X := fun w _ => laidMetH Tryd.prog laid3 w) false (World.doorLaid Tryd.prog 400 os) #[.slice none 0 0, .string ByteArray.empty, .pointer none] 8 rfl (World.shaped_of_RefB (by kernel_rfl) (by kernel_rfl)) (by kernel_rfl) (by kernel_rfl) (by kernel_rfl) (door_met os _)) ?_
  intro W base args ds gs before hval0 hW _ _ hL _
  have hval : ∀ (j : Nat) t v, Tryd.f3.params[j]? = some t → args[j]? = some v → Value.okWide Tryd.prog W .any base t v := hval0
  have hW' := hW
  obtain ⟨p, q, hA0, hV, rfl, hfz, hnd⟩ := hW
  have hA : DataW.TrodAll enc Tryd.prog W 0 (fun _ => true) true Tryd.f3.params.toList args.toList ds p := hA0
  rw [Tryd.params3] at hA hval
  obtain ⟨v0, vs0, d0, ds0, p0, q0, hargs, rfl, rfl, h0, r0⟩ := trodAll_cons hA
  obtain ⟨v1, vs1, d1, ds1, p1, q1, rfl, rfl, rfl, h1, r1⟩ := trodAll_cons r0
  obtain ⟨v2, vs2, d2, ds2, p2, q2, rfl, rfl, rfl, h2, r2⟩ := trodAll_cons r1
  obtain ⟨rfl, rfl, rfl⟩ := trodAll_nil r2
  obtain rfl : args = #[v0, v1, v2] := by cases args; simp_all
  obtain ⟨rfl, rfl⟩ := trodVars_none hV
  obtain ⟨a, len, cap, rfl⟩ := okWide_slice Tryd.underlying22 (hval 0 22 v0 rfl rfl)
  have k0 := h0
  have lt0 : ∀ x ∈ p0, x.block < W.heap.size := by obtain ⟨m, hm⟩ := k0; exact DataW.trod_lt m _ _ _ hm
  obtain ⟨key, rfl, rfl, rfl, wk⟩ := open_string Tryd.underlying9 (hval 1 9 v1 rfl rfl) h1
  have k2 := h2
  have lt2 : ∀ x ∈ p2, x.block < W.heap.size := by obtain ⟨m, hm⟩ := k2; exact DataW.trod_lt m _ _ _ hm
  have hq : v2 = .pointer none ∨ ∃ nb no n, v2 = .pointer (some ⟨nb, no, none⟩) ∧ W.cell? ⟨nb, no, none⟩ = some (.int .i64 n) ∧ -9223372036854775808 ≤ n ∧ n ≤ 9223372036854775807 := by
    rcases open_ptr_int Tryd.underlying23 Tryd.underlying3 cells3 (hval 2 23 v2 rfl rfl) h2 with ⟨e, _, _⟩ | ⟨nb, no, n, e, _, _, hc, wn⟩
    · exact .inl e
    · have e1 : IntKind.i64.min = -9223372036854775808 := rfl
      have e2 : IntKind.i64.max = 9223372036854775807 := rfl
      simp [Lit.wf, e1, e2] at wn
      exact .inr ⟨nb, no, n, e, hc, wn.1, wn.2⟩
  obtain ⟨l, hT⟩ : ∃ l, ArgIs W a len cap l := by
    obtain ⟨fuel, hf⟩ := h0
    rcases open_ints Tryd.underlying22 Tryd.underlying5 cells5 hf with ⟨hcs, _⟩ | ⟨x, l, c, zs, hcs, _, hl, hm, hz, _, hcell, hwz⟩
    · simp [Value.cells] at hcs
      obtain ⟨rfl, rfl, rfl⟩ := hcs
      exact ⟨[], rfl, fun _ => ⟨rfl, rfl⟩, fun ad e => by cases e⟩
    · simp [Value.cells] at hcs
      obtain ⟨rfl, rfl, rfl⟩ := hcs
      have hz' : zs.length = cap := by simpa using hz
      have hbl : (bytesOf zs).length = cap := by simpa [bytesOf] using hz'
      refine ⟨(bytesOf zs).take len, by rw [List.length_take, hbl]; omega, (fun e => by cases e), fun ad e j hj => ?_⟩
      cases e
      have hj' : j < zs.length := by rw [List.length_take, hbl] at hj; omega
      rw [hcell j hj', ← bytesOf_at zs hwz j hj', List.getElem_take]
  clear hA0 hval0
  refine (whole a len cap l key v2 W hT hq (Lib.tabBelow_of_tabIs (tab_of_laid hL))).mono fun e W' ⟨he, bel⟩ => ?_
  subst he
  exact ⟨_, rfl, _, _, _, [], _, [], hW', trodAll_mk1 (shut_bool Tryd.underlying4 _), (trodAll_cons_mk (Below.trod laidOut (by kernel_rfl) (of_decide_eq_true (by kernel_rfl)) k0 bel lt0) (trodAll_cons_mk (shut_string Tryd.underlying9 wk) (trodAll_cons_mk (Below.trod laidOut (by kernel_rfl) (of_decide_eq_true (by kernel_rfl)) k2 bel lt2) trodAll_mk0))), rfl, bel.frame _, fun h => by cases h⟩

theorem over : Rows.FnAppendCountParsesBackSaid :=
  OpenClaim.holds_of_wide 3 Tryd.f3 rfl rfl rfl rfl rfl rfl rfl ⟨rfl, rfl, rfl, rfl, rfl⟩ rfl rfl rfl rfl rfl (by kernel_rfl) Tryd.func3 (by kernel_rfl)
    (of_decide_eq_true (by kernel_rfl)) (by unfold Func.isWrapper; first | (rw [if_pos (by decide +kernel)]; kernel_rfl) | (rw [if_neg (by decide +kernel)]; exact ⟨rfl, rfl⟩))
    (fun os started H enc _ => lifted os started H enc)

/-- The statement: the tied card. -/
theorem proved : Rows.FnAppendCountParsesBackCardSaid :=
  Claim7.holds_tied_plain_at .later [] [.data, .data, .data] true Rows.fnAppendCountParsesBackCard.stood.harness false
    over (fun _ h => by cases h) (by kernel_rfl) (fun _ h => by cases h) fnAppendCountParsesBack_row_tie rfl ⟨rfl, rfl⟩ (by kernel_rfl) rfl
    (fun f fn hf hfn => by
      obtain rfl : f = 3 := Option.some.inj ((show Tryd.prog.funcNamed Rows.fnAppendCountParsesBackRow.func = some 3 by kernel_rfl).symm.trans hf) |>.symm
      obtain rfl : fn = Tryd.f3 := (Option.some.inj (Tryd.func3.symm.trans hfn)).symm
      exact ⟨by kernel_rfl, fun j t ht => by
        rw [Tryd.params3] at ht
        have hm : t ∈ [22, 9, 23] := by simpa using Array.mem_of_getElem? ht
        have hall : ([22, 9, 23].all fun u => !Tryd.prog.wantsStandIn u) = true := by kernel_rfl
        exact (show Tryd.prog.wantsStandIn t = false by simpa using List.all_eq_true.1 hall t hm)⟩)
    (by kernel_rfl)
end Go.Proofs.Qxb6601573aDoor.fnCount
