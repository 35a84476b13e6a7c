/- For every session, place and letter, of bulk at most 1048576: FnUnknown answers true, and its arguments read behind the call as they read before. The row, and its card. -/
import Derived.Test.YtcepdjlknalmnaaGreatDoorUkn
import Derived.Test.YtcepdjlknalmnaaGreatDoorBnk
import Derived.Test.YtcepdjlknalmnaaGreatDoorRukf
import Derived.Carry
namespace Go.Proofs.YtcepdjlknalmnaaGreatDoor
open Go.ChangeShapes Go.WideShapes Go.ChangeAt Go.RowKit

theorem u8_of_wf {k : Int} (h : (Lit.int .u8 k).wf = true) : ∃ c : UInt8, k = (c.toNat : Int) := by
  have h' : WfInt .u8 k := by unfold Lit.wf at h; unfold WfInt; simpa using h
  have e1 : (IntKind.min .u8 : Int) = 0 := by decide
  have e2 : (IntKind.max .u8 : Int) = 255 := by decide
  have h1 := h'.1
  have h2 := h'.2
  rw [e1] at h1
  rw [e2] at h2
  refine ⟨UInt8.ofNat k.toNat, ?_⟩
  simp only [UInt8.toNat_ofNat']
  omega
theorem laid_out : laidOutB Tryz.prog = true := by kernel_rfl
theorem each_mem {H : Type} {ts : List TypeId} {ds : List (DataW H)} {n : Nat} (hz : (DataW.weightsEach Tryz.prog ts ds).all (· ≤ reachBytes) = true) (hn : n ∈ DataW.weightsEach Tryz.prog ts ds) : n ≤ reachBytes := by
  simpa using List.all_eq_true.1 hz n hn
set_option maxRecDepth 100000 in
theorem uk_laid (os : Os) (args : Array Value) : laidMet Tryz.prog Rows.fnUnknownUptoRow.laid ((laidWorld os).forCall (fun _ _ => 0) ⟨#[], args, []⟩).memory :=
  (LaidIn.of_run [0, 1, 2, 3, 4, 5, 6, 7, 8, 9, 10, 11, 12, 13, 14, 15, N0, N0 + 1, N0 + 2, N0 + 3, N0 + 4, N0 + 5, N0 + 6, N0 + 7, N0 + 8, N0 + 9, N0 + 10] 8 (by kernel_rfl) (by kernel_rfl) (by kernel_rfl) (by kernel_rfl)).met
def nilSsn : Value := .agg #[.int .i64 0, .string ⟨#[]⟩, .int .u64 0, .int .u64 0, .string ⟨#[]⟩, .string ⟨#[]⟩, .string ⟨#[]⟩, .string ⟨#[]⟩, .slice none 0 0, .slice none 0 0, .slice none 0 0, .slice none 0 0, .slice none 0 0, .slice none 0 0, .slice none 0 0, .slice none 0 0, .slice none 0 0, .slice none 0 0, .slice none 0 0]
set_option maxRecDepth 100000 in
theorem uk_row (H : Type) (enc : TypeId × Value → H) (W : World) (base : Nat) (args : Array Value) (ds gs : List (DataW H)) (before : List MemPlace)
    (hval : ∀ (j : Nat) t v, Tryz.f3.params[j]? = some t → args[j]? = some v → Value.okWide Tryz.prog W .any base t v)
    (hW : DataW.Whole enc Tryz.prog Tryz.f3.params.toList Rows.fnUnknownSpec.vars false W args.toList ds gs before) (hL : laidMetH Tryz.prog Rows.fnUnknownUptoRow.laid W)
    (hz : (DataW.weightsEach Tryz.prog (Tryz.f3.params.toList ++ (Rows.OpenSpec.upto Rows.fnUnknownSpec).bare.plain.varTypes Tryz.prog) (ds ++ gs)).all (· ≤ reachBytes) = true) (hk : Rows.uptoSmall H (ds ++ gs) = true) :
    Calls Tryz.prog 3 args W fun e W' => ∃ v, e = .returned v ∧ Rows.fnUnknownSpec.post enc Tryz.prog Tryz.f3 false true false false W args v W' := by
  have hW' := hW
  obtain ⟨p, q, hA0, hV, rfl, hfz, hnd⟩ := hW
  have hA : DataW.TrodAll enc Tryz.prog W 0 (fun _ => true) true Tryz.f3.params.toList args.toList ds p := hA0
  rw [Tryz.params3] at hA hval hz
  obtain ⟨v0, v1, v2, d0, d1, d2, p0, p1, p2, rfl, rfl, rfl, h0, h1, h2⟩ := trodAll_three hA
  obtain ⟨rfl, rfl⟩ := trodVars_none hV
  have h0k := h0
  have hlt : ∀ y ∈ p0, y.block < W.heap.size := fun y hy => by
    have := hW'.lt y (by simp [hy])
    simpa using this
  obtain ⟨e, rfl, rfl, rfl, we⟩ := open_int Tryz.underlying3 (hval 1 3 v1 rfl rfl) h1
  obtain ⟨k, rfl, rfl, rfl, wk⟩ := open_int Tryz.underlying5 (hval 2 5 v2 rfl rfl) h2
  obtain ⟨cs, rfl, hcs⟩ := okWide_struct Tryz.underlying33 (hval 0 33 v0 rfl rfl)
  clear hA0 hA hval
  obtain ⟨n, hn⟩ := h0
  obtain ⟨x, ⟨u0, u1, u2, u3, u4, u5, u6, u7, u8, u9, u10, hcs2, m⟩, hmx⟩ := rdm_ssn H enc W 0 (fun _ => true) true n cs.toList (d0, p0) hn (fun k hk => each_mem hz (DataW.weights_mem_each (j := 0) (t := 33) (d := d0) rfl rfl k hk))
  obtain rfl : cs = #[.int .i64 x.ver, .string x.org.user, .int .u64 x.org.id, .int .u64 x.org.ver, .string x.org.net, .string x.org.addr, .string x.org.adr, .string x.name, u0, u1, u2, u3, u4, u5, u6, u7, u8, u9, u10] := by
    cases cs; simp_all
  have hL' : laidMet Tryz.prog Rows.fnUnknownUptoRow.laid W := hL
  obtain ⟨a, hE⟩ : ∃ a, Eof W a := eof_laid (r := Rows.fnUnknownUptoRow.laid.drop 6) hL'.tail.tail.tail.tail.tail
  have hbk : mSsn x ≤ 1048576 := by
    have h : Rows.uptoBulkAll _ ≤ 1048576 := of_decide_eq_true hk
    simp only [List.cons_append, Rows.uptoBulkAll] at h
    have hmx : mSsn x ≤ Rows.uptoBulk d0 := hmx
    omega
  obtain ⟨kd, rfl⟩ := u8_of_wf wk
  have we' : WfInt .i64 e := by unfold Lit.wf at we; unfold WfInt; simpa using we
  refine (law_unknown x e kd a W u0 u1 u2 u3 u4 u5 u6 u7 u8 u9 u10 m hE we' (bulk_lns m hbk)).mono ?_
  rintro e' W' ⟨rfl, bel⟩
  exact ⟨_, rfl, _, _, _, [], _, [], hW', trodAll_mk1 (shut_bool Tryz.underlying4 _), trodAll_mk3 (Below.trod laid_out (by kernel_rfl) (of_decide_eq_true (by kernel_rfl)) h0k bel hlt) (shut_int Tryz.underlying3 we) (shut_int Tryz.underlying5 wk), rfl, bel.frame _, fun h => by cases h⟩
set_option maxRecDepth 100000 in
theorem uk_witness (os : Os) {H : Type} (enc : TypeId × Value → H) :
    (Rows.OpenSpec.upto Rows.fnUnknownSpec).preRow enc Tryz.prog Tryz.f3 Rows.fnUnknownUptoRow.domain false Rows.fnUnknownUptoRow.laid ((laidWorld os).forCall (fun _ _ => 0) ⟨#[], #[nilSsn, .int .i64 0, .int .u8 0], []⟩).memory #[nilSsn, .int .i64 0, .int .u8 0] := by
  have hw : (DataW.whole enc Tryz.prog ((laidWorld os).forCall (fun _ _ => 0) ⟨#[], #[nilSsn, .int .i64 0, .int .u8 0], []⟩).memory Tryz.f3.params.toList Rows.fnUnknownSpec.vars false #[nilSsn, Value.int .i64 0, Value.int .u8 0].toList 8).map (fun x => (x.1, x.2.1)) =
      some ([.agg [.lit (.int .i64 0), .agg [.lit (.string []), .lit (.int .u64 0), .lit (.int .u64 0), .lit (.string []), .lit (.string []), .lit (.string [])], .lit (.string []), .nil, .nil, .nil, .nil, .nil, .nil, .nil, .nil, .nil, .nil, .nil], .lit (.int .i64 0), .lit (.int .u8 0)], []) := by kernel_rfl
  obtain ⟨⟨x1, x2, x3⟩, hx, hx1⟩ := Option.map_eq_some_iff.1 hw
  simp only [Prod.mk.injEq] at hx1
  obtain ⟨rfl, rfl⟩ := hx1
  exact OpenSpec.preRow_of_cond 8 hx (by kernel_rfl) (fun k hk => by cases hk; kernel_rfl) (by kernel_rfl) (uk_laid os _)
set_option maxRecDepth 100000 in
theorem uk_lifted (os : Os) (started : os.Started) (H : Type) (enc : TypeId × Value → H) (F : Stop.Interp) :
    ReturnsInHanded {} Tryz.checked os 3 .any ((Rows.OpenSpec.upto Rows.fnUnknownSpec).preRow enc Tryz.prog Tryz.f3 Rows.fnUnknownUptoRow.domain false Rows.fnUnknownUptoRow.laid) (((Rows.OpenSpec.upto Rows.fnUnknownSpec).at F).post enc Tryz.prog Tryz.f3 false true false false) := by
  refine returnsInHanded_of_row (C := Tryz.checked) (s := Rows.OpenSpec.upto Rows.fnUnknownSpec) knob started (by kernel_rfl) Tryz.func3
    (witness_row_atRef (enc := enc) (C := Tryz.checked) false (laidWorld os) #[nilSsn, .int .i64 0, .int .u8 0] rfl (by kernel_rfl) (by kernel_rfl) (by kernel_rfl) (uk_witness os enc)) ?_
  intro W base args ds gs before hval hW _ hcond hz hL _ _
  exact uk_row H enc W base args ds gs before hval hW hL hz (hcond _ rfl)
set_option maxRecDepth 100000 in
theorem uk_said : Rows.FnUnknownUptoSaid :=
  OpenClaim.holds_of_cond 3 Tryz.f3 rfl rfl rfl rfl rfl rfl rfl ⟨rfl, rfl, rfl, rfl, rfl⟩ rfl rfl rfl rfl rfl (by as_aux_lemma => kernel_rfl) Tryz.func3 uk_facts
    (of_decide_eq_true (by as_aux_lemma => kernel_rfl)) (by as_aux_lemma => (unfold Func.isWrapper; first | (rw [if_pos (by decide +kernel)]; kernel_rfl) | (rw [if_neg (by decide +kernel)]; exact ⟨rfl, rfl⟩)))
    (fun os started H enc _ F => by rw [OpenClaim.pre_eq_preRow]; exact uk_lifted os started H enc F)
theorem uk_plain (f : FuncId) (fn : Func) (hf : Tryz.pinned.checked.prog.funcNamed "pionsdp/laws.FnUnknown" = some f) (hfn : Tryz.pinned.checked.prog.funcs[f]? = some fn) :
    true = Tryz.pinned.checked.prog.looks [] ∧ ∀ (j : Nat) t, fn.params[j]? = some t → Tryz.pinned.checked.prog.wantsStandIn t = false := by
  obtain rfl : f = 3 := Option.some.inj ((show Tryz.prog.funcNamed "pionsdp/laws.FnUnknown" = some 3 by kernel_rfl).symm.trans hf) |>.symm
  obtain rfl : fn = Tryz.f3 := (Option.some.inj (Tryz.func3.symm.trans hfn)).symm
  refine ⟨by kernel_rfl, fun j t ht => ?_⟩
  rw [Tryz.params3] at ht
  have h : t = 33 ∨ t = 3 ∨ t = 5 := by simpa using Array.mem_of_getElem? ht
  rcases h with rfl | rfl | rfl
  · exact (show Tryz.prog.wantsStandIn 33 = false by kernel_rfl)
  · exact (show Tryz.prog.wantsStandIn 3 = false by kernel_rfl)
  · exact (show Tryz.prog.wantsStandIn 5 = false by kernel_rfl)
theorem uk_card : Rows.FnUnknownUptoCardSaid :=
  Claim7.holds_tied_plain_at .later [] _ _ _ _ uk_said (fun _ h => by cases h) (by as_aux_lemma => kernel_rfl) (fun _ h => by cases h) fnUnknownUpto_row_tie rfl ⟨rfl, rfl⟩ (by as_aux_lemma => kernel_rfl) rfl uk_plain (by as_aux_lemma => kernel_rfl)
end Go.Proofs.YtcepdjlknalmnaaGreatDoor
