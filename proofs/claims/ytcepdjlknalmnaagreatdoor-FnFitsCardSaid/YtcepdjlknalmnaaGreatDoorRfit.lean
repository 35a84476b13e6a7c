/- A format fits itself: the law. -/
import Derived.Test.YtcepdjlknalmnaaGreatDoorWrk
import Derived.Test.YtcepdjlknalmnaaGreatDoorFts
import Derived.Test.YtcepdjlknalmnaaGreatDoorLay
import Derived.Test.YtcepdjlknalmnaaGreatDoorRff
namespace Go.Proofs.YtcepdjlknalmnaaGreatDoor
open Go.RowKit
set_option linter.unusedSimpArgs false
set_option linter.unusedVariables false
attribute [local go_sem ↓] Go.wp_at_zero Go.wp_at_succ

theorem line_ascii {s : ByteArray} (h : line s = true) : ∀ c ∈ bs s, c.toNat < 128 := fun c hc => by
  unfold line at h
  simp only [Bool.and_eq_true, List.all_eq_true] at h
  have := h.1 c hc
  unfold lineB at this
  simp at this
  omega
theorem imp_fits (s : ByteArray) (w : World) (hs : s.size ≤ 2147483647) (hl : line s = true) (htab : Lib.TabIs Tryz.prog w "strings.asciiSpace" .u8 Lib.asciiSpaceTab) :
    Calls Tryz.prog 20 #[.string s, .string s] w fun e w' => e = .returned (.bool true) ∧ Nw w w' := by
  have HC := Lib.hid (par_fits s w (by omega) (line_ascii hl) htab)
  have H56 : Hid (Calls Tryz.prog 56 #[.string s, .string s] w fun e w' => e = .returned (.bool true) ∧ Nw w w') := Lib.hid (by
    clear hl htab
    go_enter Tryz.func56, Tryz.ntmps56
    go_wp2_with (go_at_call 116; (with_reducible refine HC.out.mono ?_); rintro e w1 ⟨rfl, hn⟩)
    go_ret
    exact ⟨rfl, hn⟩)
  clear HC hl htab
  go_enter Tryz.func20, Tryz.ntmps20
  go_wp2_with (go_at_call 56; (with_reducible refine H56.out.mono ?_); rintro e w1 ⟨rfl, hn⟩)
  go_ret
  exact ⟨rfl, hn⟩
theorem law_fits (s : ByteArray) (w : World) (a : Addr) (hE : Eof w a) (htab : Lib.TabIs Tryz.prog w "strings.asciiSpace" .u8 Lib.asciiSpaceTab) :
    Calls Tryz.prog 7 #[.string s] w fun e w' => e = .returned (.bool true) ∧ Nw w w' := by
  by_cases h1 : s.size ≤ 2147483647
  · have h1' : ¬ (2147483647 : Int) < (s.size : Int) := by omega
    cases hl : line s
    · have HL := Lib.hid (spec_Line s w (by unfold WfStr strMax; omega))
      rw [hl] at HL
      clear hl htab hE
      go_enter Tryz.func7, Tryz.ntmps7
      go_wp2_with (go_at_call 19; (with_reducible refine HL.out.mono ?_); rintro e w1 ⟨rfl, rfl⟩)
      go_ret
      exact ⟨rfl, Nw.refl _⟩
    · have HL := Lib.hid (spec_Line s w (by unfold WfStr strMax; omega))
      rw [hl] at HL
      have HF := Lib.hid (imp_fits s w h1 hl htab)
      have HW : Hid (∀ w' : World, Nw w w' → Calls Tryz.prog 12 #[] w' fun e w2 => e = .returned (.bool true) ∧ Nw w' w2) := Lib.hid (fun w' hn => law_works w' a (hE.nw hn))
      clear hl htab hE
      go_enter Tryz.func7, Tryz.ntmps7
      go_wp2_with (first | (go_at_call 19; (with_reducible refine HL.out.mono ?_); rintro e w1 ⟨rfl, rfl⟩) | (go_at_call 20; (with_reducible refine HF.out.mono ?_); rintro e w2 ⟨rfl, hn2⟩) | (go_at_call 12; (with_reducible refine (HW.out _ hn2).mono ?_); rintro e w3 ⟨rfl, hn3⟩))
      go_ret
      exact ⟨rfl, hn2.trans hn3⟩
  · have h1' : (2147483647 : Int) < (s.size : Int) := by omega
    clear htab hE
    go_enter Tryz.func7, Tryz.ntmps7
    go_wp2
    go_ret
    exact ⟨rfl, Nw.refl _⟩
end Go.Proofs.YtcepdjlknalmnaaGreatDoor

/- For every text: FnFits answers true, and its argument reads behind the call as it read before. The row, and its card. -/
namespace Go.Proofs.YtcepdjlknalmnaaGreatDoor
open Go.ChangeShapes Go.WideShapes Go.ChangeAt Go.RowKit
open Go.ChangeMaps (open_string shut_string)

set_option maxRecDepth 100000 in
theorem fits_laid (os : Os) (args : Array Value) : laidMet Tryz.prog Rows.fnFitsRow.laid ((laidWorld os).forCall (fun _ _ => 0) ⟨#[], args, []⟩).memory :=
  (LaidIn.of_run [0, 1, 2, 3, 4, 5, 6, 7, 8, 9, 10, 11, 12, 13, 14, 15, N0, N0 + 1, N0 + 2, N0 + 3, N0 + 4, N0 + 5, N0 + 6, N0 + 7, N0 + 8, N0 + 9, N0 + 10] 8 (by kernel_rfl) (by kernel_rfl) (by kernel_rfl) (by kernel_rfl)).met
theorem fits_witness (os : Os) {H : Type} (enc : TypeId × Value → H) :
    (OpenSpec.ofChange Rows.fnFitsSpec).preRow enc Tryz.prog Tryz.f7 Rows.fnFitsRow.domain false Rows.fnFitsRow.laid ((laidWorld os).forCall (fun _ _ => 0) ⟨#[], #[.string ⟨#[]⟩], []⟩).memory #[.string ⟨#[]⟩] := by
  have hw : (DataW.whole enc Tryz.prog ((laidWorld os).forCall (fun _ _ => 0) ⟨#[], #[.string ⟨#[]⟩], []⟩).memory Tryz.f7.params.toList Rows.fnFitsSpec.vars false #[Value.string ⟨#[]⟩].toList 8).map (fun x => (x.1, x.2.1)) =
      some ([.lit (.string [])], []) := by kernel_rfl
  obtain ⟨⟨x1, x2, x3⟩, hx, hx1⟩ := Option.map_eq_some_iff.1 hw
  simp only [Prod.mk.injEq] at hx1
  obtain ⟨rfl, rfl⟩ := hx1
  exact OpenSpec.preRow_of_cond 8 hx (by kernel_rfl) (fun k hk => by cases hk) (by kernel_rfl) (fits_laid os _)
set_option maxRecDepth 100000 in
theorem fits_row (H : Type) (enc : TypeId × Value → H) (W : World) (base : Nat) (args : Array Value) (ds gs : List (DataW H)) (before : List MemPlace)
    (hval : ∀ (j : Nat) t v, Tryz.f7.params[j]? = some t → args[j]? = some v → Value.okWide Tryz.prog W .any base t v)
    (hW : DataW.Whole enc Tryz.prog Tryz.f7.params.toList Rows.fnFitsSpec.vars false W args.toList ds gs before) (hL : laidMetH Tryz.prog Rows.fnFitsRow.laid W) :
    Calls Tryz.prog 7 args W fun e W' => ∃ v, e = .returned v ∧ Rows.fnFitsSpec.post enc Tryz.prog Tryz.f7 false true false false W args v W' := by
  have hW' := hW
  obtain ⟨p, q, hA0, hV, rfl, hfz, hnd⟩ := hW
  have hA : DataW.TrodAll enc Tryz.prog W 0 (fun _ => true) true Tryz.f7.params.toList args.toList ds p := hA0
  rw [Tryz.params7] at hA hval
  obtain ⟨v0, d0, rfl, rfl, h0⟩ := trodAll_one hA
  obtain ⟨rfl, rfl⟩ := trodVars_none hV
  obtain ⟨s, rfl, rfl, rfl, ws⟩ := open_string Tryz.underlying9 (hval 0 9 v0 rfl rfl) h0
  clear hA0
  have hL' : laidMet Tryz.prog Rows.fnFitsRow.laid W := hL
  obtain ⟨a, hE⟩ : ∃ a, Eof W a := eof_laid (r := Rows.fnFitsRow.laid.drop 7) hL'.tail.tail.tail.tail.tail.tail
  have hT : Lib.TabIs Tryz.prog W "strings.asciiSpace" .u8 Lib.asciiSpaceTab := Lib.tabIs_of_head (rest := Rows.fnFitsRow.laid.drop 9) (g := 2) (by kernel_rfl) (by kernel_rfl) Tryz.underlying242 Tryz.underlying5 (by kernel_rfl) (by kernel_rfl) hL'.tail.tail.tail.tail.tail.tail.tail.tail
  refine (law_fits s W a hE hT).mono ?_
  rintro e W' ⟨rfl, bel⟩
  exact ⟨_, rfl, _, _, _, [], [], [], hW', trodAll_mk1 (shut_bool Tryz.underlying4 _), trodAll_mk1 (shut_string Tryz.underlying9 ws), rfl, bel.frame _, fun h => by cases h⟩
set_option maxRecDepth 100000 in
theorem fits_lifted (os : Os) (started : os.Started) (H : Type) (enc : TypeId × Value → H) (F : Stop.Interp) :
    ReturnsInHanded {} Tryz.checked os 7 .any ((OpenSpec.ofChange Rows.fnFitsSpec).preRow enc Tryz.prog Tryz.f7 Rows.fnFitsRow.domain false Rows.fnFitsRow.laid) (((OpenSpec.ofChange Rows.fnFitsSpec).at F).post enc Tryz.prog Tryz.f7 false true false false) := by
  refine returnsInHanded_of_row (C := Tryz.checked) (s := OpenSpec.ofChange Rows.fnFitsSpec) knob started (by kernel_rfl) Tryz.func7
    (witness_row_atRef (enc := enc) (C := Tryz.checked) false (laidWorld os) #[.string ⟨#[]⟩] rfl (by kernel_rfl) (by kernel_rfl) (by kernel_rfl) (fits_witness os enc)) ?_
  intro W base args ds gs before hval hW _ _ _ hL _ _
  exact fits_row H enc W base args ds gs before hval hW hL
set_option maxRecDepth 100000 in
theorem fits_said : Rows.FnFitsSaid :=
  OpenClaim.holds_of_cond 7 Tryz.f7 rfl rfl rfl rfl rfl rfl rfl ⟨rfl, rfl, rfl, rfl, rfl⟩ rfl rfl rfl rfl rfl (by as_aux_lemma => kernel_rfl) Tryz.func7 fits_facts
    (of_decide_eq_true (by as_aux_lemma => kernel_rfl)) (by as_aux_lemma => (unfold Func.isWrapper; first | (rw [if_pos (by decide +kernel)]; kernel_rfl) | (rw [if_neg (by decide +kernel)]; exact ⟨rfl, rfl⟩)))
    (fun os started H enc _ F => by rw [OpenClaim.pre_eq_preRow]; exact fits_lifted os started H enc F)
theorem fits_plain (f : FuncId) (fn : Func) (hf : Tryz.pinned.checked.prog.funcNamed "pionsdp/laws.FnFits" = some f) (hfn : Tryz.pinned.checked.prog.funcs[f]? = some fn) :
    true = Tryz.pinned.checked.prog.looks [] ∧ ∀ (j : Nat) t, fn.params[j]? = some t → Tryz.pinned.checked.prog.wantsStandIn t = false := by
  obtain rfl : f = 7 := Option.some.inj ((show Tryz.prog.funcNamed "pionsdp/laws.FnFits" = some 7 by kernel_rfl).symm.trans hf) |>.symm
  obtain rfl : fn = Tryz.f7 := (Option.some.inj (Tryz.func7.symm.trans hfn)).symm
  refine ⟨by kernel_rfl, fun j t ht => ?_⟩
  rw [Tryz.params7] at ht
  obtain rfl : t = 9 := by simpa using Array.mem_of_getElem? ht
  exact (show Tryz.prog.wantsStandIn 9 = false by kernel_rfl)
theorem fits_card : Rows.FnFitsCardSaid :=
  Claim7.holds_tied_plain_at .later [] _ _ _ _ fits_said (fun _ h => by cases h) (by as_aux_lemma => kernel_rfl) (fun _ h => by cases h) fnFits_row_tie rfl ⟨rfl, rfl⟩ (by as_aux_lemma => kernel_rfl) rfl fits_plain (by as_aux_lemma => kernel_rfl)
end Go.Proofs.YtcepdjlknalmnaaGreatDoor
