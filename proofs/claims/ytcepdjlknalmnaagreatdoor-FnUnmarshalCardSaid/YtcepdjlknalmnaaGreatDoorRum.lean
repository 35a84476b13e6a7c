/- For every session and every choice of line end: FnUnmarshal answers true, and its arguments read behind the call as they read before. The row, and its card. -/
import Derived.Test.YtcepdjlknalmnaaGreatDoorUmw
import Derived.Test.YtcepdjlknalmnaaGreatDoorRdg
import Derived.Test.YtcepdjlknalmnaaGreatDoorRumf
import Derived.Carry
namespace Go.Proofs.YtcepdjlknalmnaaGreatDoor
open Go.ChangeShapes Go.WideShapes Go.ChangeAt Go.RowKit

theorem laid_out : laidOutB Tryz.prog = true := by kernel_rfl
theorem each_mem {H : Type} {ts : List TypeId} {ds : List (DataW H)} {n : Nat} (hz : (DataW.weightsEach Tryz.prog ts ds).all (· ≤ reachBytes) = true) (hn : n ∈ DataW.weightsEach Tryz.prog ts ds) : n ≤ reachBytes := by
  simpa using List.all_eq_true.1 hz n hn
set_option maxRecDepth 100000 in
theorem um_laid (os : Os) (args : Array Value) : laidMet Tryz.prog Rows.fnUnmarshalRow.laid ((laidWorld os).forCall (fun _ _ => 0) ⟨#[], args, []⟩).memory :=
  (LaidIn.of_run [0, 1, 2, 3, 4, 5, 6, 7, 8, 9, 10, 11, 12, 13, 14, 15, N0, N0 + 1, N0 + 2, N0 + 3, N0 + 4, N0 + 5, N0 + 6, N0 + 7, N0 + 8, N0 + 9, N0 + 10] 8 (by kernel_rfl) (by kernel_rfl) (by kernel_rfl) (by kernel_rfl)).met
def nilSsn : Value := .agg #[.int .i64 0, .string ⟨#[]⟩, .int .u64 0, .int .u64 0, .string ⟨#[]⟩, .string ⟨#[]⟩, .string ⟨#[]⟩, .string ⟨#[]⟩, .slice none 0 0, .slice none 0 0, .slice none 0 0, .slice none 0 0, .slice none 0 0, .slice none 0 0, .slice none 0 0, .slice none 0 0, .slice none 0 0, .slice none 0 0, .slice none 0 0]
set_option maxRecDepth 100000 in
theorem um_row (H : Type) (enc : TypeId × Value → H) (W : World) (base : Nat) (args : Array Value) (ds gs : List (DataW H)) (before : List MemPlace)
    (hval : ∀ (j : Nat) t v, Tryz.f4.params[j]? = some t → args[j]? = some v → Value.okWide Tryz.prog W .any base t v)
    (hW : DataW.Whole enc Tryz.prog Tryz.f4.params.toList Rows.fnUnmarshalSpec.vars false W args.toList ds gs before) (hL : laidMetH Tryz.prog Rows.fnUnmarshalRow.laid W)
    (hz : (DataW.weightsEach Tryz.prog (Tryz.f4.params.toList ++ (OpenSpec.ofChange Rows.fnUnmarshalSpec).bare.plain.varTypes Tryz.prog) (ds ++ gs)).all (· ≤ reachBytes) = true) :
    Calls Tryz.prog 4 args W fun e W' => ∃ v, e = .returned v ∧ Rows.fnUnmarshalSpec.post enc Tryz.prog Tryz.f4 false true false false W args v W' := by
  have hW' := hW
  obtain ⟨p, q, hA0, hV, rfl, hfz, hnd⟩ := hW
  have hA : DataW.TrodAll enc Tryz.prog W 0 (fun _ => true) true Tryz.f4.params.toList args.toList ds p := hA0
  rw [Tryz.params4] at hA hval hz
  obtain ⟨v0, v1, d0, d1, p0, p1, rfl, rfl, rfl, h0, h1⟩ := trodAll_two hA
  obtain ⟨rfl, rfl⟩ := trodVars_none hV
  have h0k := h0
  have hlt : ∀ y ∈ p0, y.block < W.heap.size := fun y hy => by
    have := hW'.lt y (by simp [hy])
    simpa using this
  obtain ⟨e, rfl, rfl, rfl, we⟩ := open_int Tryz.underlying3 (hval 1 3 v1 rfl rfl) h1
  obtain ⟨cs, rfl, hcs⟩ := okWide_struct Tryz.underlying33 (hval 0 33 v0 rfl rfl)
  clear hA0 hA hval
  obtain ⟨n, hn⟩ := h0
  obtain ⟨x, u0, u1, u2, u3, u4, u5, u6, u7, u8, u9, u10, hcs2, m⟩ := rd_ssn H enc W 0 (fun _ => true) true n cs.toList (d0, p0) hn (fun k hk => each_mem hz (DataW.weights_mem_each (j := 0) (t := 33) (d := d0) rfl rfl k hk))
  obtain rfl : cs = #[.int .i64 x.ver, .string x.org.user, .int .u64 x.org.id, .int .u64 x.org.ver, .string x.org.net, .string x.org.addr, .string x.org.adr, .string x.name, u0, u1, u2, u3, u4, u5, u6, u7, u8, u9, u10] := by
    cases cs; simp_all
  have hL' : laidMet Tryz.prog Rows.fnUnmarshalRow.laid W := hL
  obtain ⟨a, hE⟩ : ∃ a, Eof W a := eof_laid (r := Rows.fnUnmarshalRow.laid.drop 6) hL'.tail.tail.tail.tail.tail
  have we' : WfInt .i64 e := by unfold Lit.wf at we; unfold WfInt; simpa using we
  refine (law_unmarshal x e a W u0 u1 u2 u3 u4 u5 u6 u7 u8 u9 u10 m hE we').mono ?_
  rintro e' W' ⟨rfl, bel⟩
  exact ⟨_, rfl, _, _, _, [], _, [], hW', trodAll_mk1 (shut_bool Tryz.underlying4 _), trodAll_mk2 (Below.trod laid_out (by kernel_rfl) (of_decide_eq_true (by kernel_rfl)) h0k bel hlt) (shut_int Tryz.underlying3 we), rfl, bel.frame _, fun h => by cases h⟩
set_option maxRecDepth 100000 in
theorem um_witness (os : Os) {H : Type} (enc : TypeId × Value → H) :
    (OpenSpec.ofChange Rows.fnUnmarshalSpec).preRow enc Tryz.prog Tryz.f4 Rows.fnUnmarshalRow.domain false Rows.fnUnmarshalRow.laid ((laidWorld os).forCall (fun _ _ => 0) ⟨#[], #[nilSsn, .int .i64 0], []⟩).memory #[nilSsn, .int .i64 0] := by
  have hw : (DataW.whole enc Tryz.prog ((laidWorld os).forCall (fun _ _ => 0) ⟨#[], #[nilSsn, .int .i64 0], []⟩).memory Tryz.f4.params.toList Rows.fnUnmarshalSpec.vars false #[nilSsn, Value.int .i64 0].toList 8).map (fun x => (x.1, x.2.1)) =
      some ([.agg [.lit (.int .i64 0), .agg [.lit (.string []), .lit (.int .u64 0), .lit (.int .u64 0), .lit (.string []), .lit (.string []), .lit (.string [])], .lit (.string []), .nil, .nil, .nil, .nil, .nil, .nil, .nil, .nil, .nil, .nil, .nil], .lit (.int .i64 0)], []) := by kernel_rfl
  obtain ⟨⟨x1, x2, x3⟩, hx, hx1⟩ := Option.map_eq_some_iff.1 hw
  simp only [Prod.mk.injEq] at hx1
  obtain ⟨rfl, rfl⟩ := hx1
  exact OpenSpec.preRow_of_cond 8 hx (by kernel_rfl) (fun k hk => by cases hk) (by kernel_rfl) (um_laid os _)
set_option maxRecDepth 100000 in
theorem um_lifted (os : Os) (started : os.Started) (H : Type) (enc : TypeId × Value → H) (F : Stop.Interp) :
    ReturnsInHanded {} Tryz.checked os 4 .any ((OpenSpec.ofChange Rows.fnUnmarshalSpec).preRow enc Tryz.prog Tryz.f4 Rows.fnUnmarshalRow.domain false Rows.fnUnmarshalRow.laid) (((OpenSpec.ofChange Rows.fnUnmarshalSpec).at F).post enc Tryz.prog Tryz.f4 false true false false) := by
  refine returnsInHanded_of_row (C := Tryz.checked) (s := OpenSpec.ofChange Rows.fnUnmarshalSpec) knob started (by kernel_rfl) Tryz.func4
    (witness_row_atRef (enc := enc) (C := Tryz.checked) false (laidWorld os) #[nilSsn, .int .i64 0] rfl (by kernel_rfl) (by kernel_rfl) (by kernel_rfl) (um_witness os enc)) ?_
  intro W base args ds gs before hval hW _ _ hz hL _ _
  exact um_row H enc W base args ds gs before hval hW hL hz
set_option maxRecDepth 100000 in
theorem um_said : Rows.FnUnmarshalSaid :=
  OpenClaim.holds_of_cond 4 Tryz.f4 rfl rfl rfl rfl rfl rfl rfl ⟨rfl, rfl, rfl, rfl, rfl⟩ rfl rfl rfl rfl rfl (by as_aux_lemma => kernel_rfl) Tryz.func4 um_facts
    (of_decide_eq_true (by as_aux_lemma => kernel_rfl)) (by as_aux_lemma => (unfold Func.isWrapper; first | (rw [if_pos (by decide +kernel)]; kernel_rfl) | (rw [if_neg (by decide +kernel)]; exact ⟨rfl, rfl⟩)))
    (fun os started H enc _ F => by rw [OpenClaim.pre_eq_preRow]; exact um_lifted os started H enc F)
theorem um_plain (f : FuncId) (fn : Func) (hf : Tryz.pinned.checked.prog.funcNamed "pionsdp/laws.FnUnmarshal" = some f) (hfn : Tryz.pinned.checked.prog.funcs[f]? = some fn) :
    true = Tryz.pinned.checked.prog.looks [] ∧ ∀ (j : Nat) t, fn.params[j]? = some t → Tryz.pinned.checked.prog.wantsStandIn t = false := by
  obtain rfl : f = 4 := Option.some.inj ((show Tryz.prog.funcNamed "pionsdp/laws.FnUnmarshal" = some 4 by kernel_rfl).symm.trans hf) |>.symm
  obtain rfl : fn = Tryz.f4 := (Option.some.inj (Tryz.func4.symm.trans hfn)).symm
  refine ⟨by kernel_rfl, fun j t ht => ?_⟩
  rw [Tryz.params4] at ht
  have h : t = 33 ∨ t = 3 := by simpa using Array.mem_of_getElem? ht
  rcases h with rfl | rfl
  · exact (show Tryz.prog.wantsStandIn 33 = false by kernel_rfl)
  · exact (show Tryz.prog.wantsStandIn 3 = false by kernel_rfl)
theorem um_card : Rows.FnUnmarshalCardSaid :=
  Claim7.holds_tied_plain_at .later [] _ _ _ _ um_said (fun _ h => by cases h) (by as_aux_lemma => kernel_rfl) (fun _ h => by cases h) fnUnmarshal_row_tie rfl ⟨rfl, rfl⟩ (by as_aux_lemma => kernel_rfl) rfl um_plain (by as_aux_lemma => kernel_rfl)
end Go.Proofs.YtcepdjlknalmnaaGreatDoor
