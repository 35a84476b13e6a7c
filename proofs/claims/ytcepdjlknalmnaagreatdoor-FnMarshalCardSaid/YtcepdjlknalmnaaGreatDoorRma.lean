/- For every session: FnMarshal answers true, and its argument reads behind the call as it read before. The row, and its card. -/
import Derived.Test.YtcepdjlknalmnaaGreatDoorRows
import Derived.ProofKit
import Derived.OpenShut
import Derived.Deep.DeepHandedRow
import Derived.Test.YtcepdjlknalmnaaGreatDoorLmr
import Derived.Test.YtcepdjlknalmnaaGreatDoorRdg
import Derived.Lib.LaidTab
import Derived.Carry
namespace Go.Proofs.YtcepdjlknalmnaaGreatDoor
set_option maxRecDepth 100000 in
set_option maxHeartbeats 40000000 in
theorem ma_facts : joinedFacts Tryz.prog 6 Tryz.f6 Rows.fnMarshalSpec Rows.fnMarshalRow = true := by
 unfold joinedFacts
 simp only [Bool.and_eq_true]
 refine ⟨⟨⟨⟨⟨⟨⟨⟨⟨⟨⟨⟨⟨⟨⟨⟨⟨⟨⟨⟨⟨⟨⟨⟨⟨⟨⟨⟨⟨⟨⟨?_, ?_⟩, ?_⟩, ?_⟩, ?_⟩, ?_⟩, ?_⟩, ?_⟩, ?_⟩, ?_⟩, ?_⟩, ?_⟩, ?_⟩, ?_⟩, ?_⟩, ?_⟩, ?_⟩, ?_⟩, ?_⟩, ?_⟩, ?_⟩, ?_⟩, ?_⟩, ?_⟩, ?_⟩, ?_⟩, ?_⟩, ?_⟩, ?_⟩, ?_⟩, ?_⟩, ?_⟩
 all_goals (as_aux_lemma => kernel_rfl)
end Go.Proofs.YtcepdjlknalmnaaGreatDoor
namespace Go.Proofs.YtcepdjlknalmnaaGreatDoor
open Go.ChangeShapes Go.WideShapes Go.ChangeAt Go.RowKit
theorem laid_out : laidOutB Tryz.prog = true := by kernel_rfl
theorem each_mem {H : Type} {ts : List TypeId} {ds : List (DataW H)} {n : Nat} (hz : (DataW.weightsEach Tryz.prog ts ds).all (· ≤ reachBytes) = true) (hn : n ∈ DataW.weightsEach Tryz.prog ts ds) : n ≤ reachBytes := by
 simpa using List.all_eq_true.1 hz n hn
set_option maxRecDepth 100000 in
theorem ma_laid (os : Os) (args : Array Value) : laidMet Tryz.prog Rows.fnMarshalRow.laid ((laidWorld os).forCall (fun _ _ => 0) ⟨#[], args, []⟩).memory :=
 (LaidIn.of_run [0, 1, 2, 3, 4, 5, 6, 7, 8, 9, 10, 11, 12, 13, 14, 15, N0, N0 + 1, N0 + 2, N0 + 3, N0 + 4, N0 + 5, N0 + 6, N0 + 7, N0 + 8, N0 + 9, N0 + 10] 8 (by kernel_rfl) (by kernel_rfl) (by kernel_rfl) (by kernel_rfl)).met
def nilSsn : Value := .agg #[.int .i64 0, .string ⟨#[]⟩, .int .u64 0, .int .u64 0, .string ⟨#[]⟩, .string ⟨#[]⟩, .string ⟨#[]⟩, .string ⟨#[]⟩, .slice none 0 0, .slice none 0 0, .slice none 0 0, .slice none 0 0, .slice none 0 0, .slice none 0 0, .slice none 0 0, .slice none 0 0, .slice none 0 0, .slice none 0 0, .slice none 0 0]
set_option maxRecDepth 100000 in
theorem ma_row (H : Type) (enc : TypeId × Value → H) (W : World) (base : Nat) (args : Array Value) (ds gs : List (DataW H)) (before : List MemPlace)
 (hval : ∀ (j : Nat) t v, Tryz.f6.params[j]? = some t → args[j]? = some v → Value.okWide Tryz.prog W .any base t v)
 (hW : DataW.Whole enc Tryz.prog Tryz.f6.params.toList Rows.fnMarshalSpec.vars false W args.toList ds gs before) (hL : laidMetH Tryz.prog Rows.fnMarshalRow.laid W)
 (hz : (DataW.weightsEach Tryz.prog (Tryz.f6.params.toList ++ (OpenSpec.ofChange Rows.fnMarshalSpec).bare.plain.varTypes Tryz.prog) (ds ++ gs)).all (· ≤ reachBytes) = true) :
 Calls Tryz.prog 6 args W fun e W' => ∃ v, e = .returned v ∧ Rows.fnMarshalSpec.post enc Tryz.prog Tryz.f6 false true false false W args v W' := by
 have hW' := hW
 obtain ⟨p, q, hA0, hV, rfl, hfz, hnd⟩ := hW
 have hA : DataW.TrodAll enc Tryz.prog W 0 (fun _ => true) true Tryz.f6.params.toList args.toList ds p := hA0
 rw [Tryz.params6] at hA hval hz
 obtain ⟨v0, d0, rfl, rfl, h0⟩ := trodAll_one hA
 obtain ⟨rfl, rfl⟩ := trodVars_none hV
 have h0k := h0
 have hlt : ∀ y ∈ p, y.block < W.heap.size := fun y hy => by
  have := hW'.lt y (by simp [hy])
  simpa using this
 obtain ⟨cs, rfl, hcs⟩ := okWide_struct Tryz.underlying33 (hval 0 33 v0 rfl rfl)
 clear hA0 hA hval
 obtain ⟨n, hn⟩ := h0
 obtain ⟨x, u0, u1, u2, u3, u4, u5, u6, u7, u8, u9, u10, hcs2, m⟩ := rd_ssn H enc W 0 (fun _ => true) true n cs.toList (d0, p) hn (fun k hk => each_mem hz (DataW.weights_mem_each (j := 0) (t := 33) (d := d0) rfl rfl k hk))
 obtain rfl : cs = #[.int .i64 x.ver, .string x.org.user, .int .u64 x.org.id, .int .u64 x.org.ver, .string x.org.net, .string x.org.addr, .string x.org.adr, .string x.name, u0, u1, u2, u3, u4, u5, u6, u7, u8, u9, u10] := by
  cases cs; simp_all
 have hL' : laidMet Tryz.prog Rows.fnMarshalRow.laid W := hL
 obtain ⟨a, hE⟩ : ∃ a, Eof W a := eof_laid (r := Rows.fnMarshalRow.laid.drop 6) hL'.tail.tail.tail.tail.tail
 have hT : Lib.TabIs Tryz.prog W "internal/strconv.uint64pow10" .u64 Lib.pow10Tab := Lib.tabIs_of_head (rest := Rows.fnMarshalRow.laid.drop 3) (g := 5) (by kernel_rfl) (by kernel_rfl) Tryz.underlying280 Tryz.underlying22 (by kernel_rfl) (by kernel_rfl) hL'.tail.tail
 refine (law_marshal x a W u0 u1 u2 u3 u4 u5 u6 u7 u8 u9 u10 m hE hT).mono ?_
 rintro e' W' ⟨rfl, bel⟩
 exact ⟨_, rfl, _, _, _, [], _, [], hW', trodAll_mk1 (shut_bool Tryz.underlying4 _), trodAll_mk1 (Below.trod laid_out (by kernel_rfl) (of_decide_eq_true (by kernel_rfl)) h0k bel hlt), rfl, bel.frame _, fun h => by cases h⟩
set_option maxRecDepth 100000 in
theorem ma_witness (os : Os) {H : Type} (enc : TypeId × Value → H) :
 (OpenSpec.ofChange Rows.fnMarshalSpec).preRow enc Tryz.prog Tryz.f6 Rows.fnMarshalRow.domain false Rows.fnMarshalRow.laid ((laidWorld os).forCall (fun _ _ => 0) ⟨#[], #[nilSsn], []⟩).memory #[nilSsn] := by
 have hw : (DataW.whole enc Tryz.prog ((laidWorld os).forCall (fun _ _ => 0) ⟨#[], #[nilSsn], []⟩).memory Tryz.f6.params.toList Rows.fnMarshalSpec.vars false #[nilSsn].toList 8).map (fun x => (x.1, x.2.1)) =
  some ([.agg [.lit (.int .i64 0), .agg [.lit (.string []), .lit (.int .u64 0), .lit (.int .u64 0), .lit (.string []), .lit (.string []), .lit (.string [])], .lit (.string []), .nil, .nil, .nil, .nil, .nil, .nil, .nil, .nil, .nil, .nil, .nil]], []) := by kernel_rfl
 obtain ⟨⟨x1, x2, x3⟩, hx, hx1⟩ := Option.map_eq_some_iff.1 hw
 simp only [Prod.mk.injEq] at hx1
 obtain ⟨rfl, rfl⟩ := hx1
 exact OpenSpec.preRow_of_cond 8 hx (by kernel_rfl) (fun k hk => by cases hk) (by kernel_rfl) (ma_laid os _)
set_option maxRecDepth 100000 in
theorem ma_lifted (os : Os) (started : os.Started) (H : Type) (enc : TypeId × Value → H) (F : Stop.Interp) :
 ReturnsInHanded {} Tryz.checked os 6 .any ((OpenSpec.ofChange Rows.fnMarshalSpec).preRow enc Tryz.prog Tryz.f6 Rows.fnMarshalRow.domain false Rows.fnMarshalRow.laid) (((OpenSpec.ofChange Rows.fnMarshalSpec).at F).post enc Tryz.prog Tryz.f6 false true false false) := by
 refine returnsInHanded_of_row (C := Tryz.checked) (s := OpenSpec.ofChange Rows.fnMarshalSpec) knob started (by kernel_rfl) Tryz.func6
  (witness_row_atRef (enc := enc) (C := Tryz.checked) false (laidWorld os) #[nilSsn] rfl (by kernel_rfl) (by kernel_rfl) (by kernel_rfl) (ma_witness os enc)) ?_
 intro W base args ds gs before hval hW _ _ hz hL _ _
 exact ma_row H enc W base args ds gs before hval hW hL hz
set_option maxRecDepth 100000 in
theorem ma_said : Rows.FnMarshalSaid :=
 OpenClaim.holds_of_cond 6 Tryz.f6 rfl rfl rfl rfl rfl rfl rfl ⟨rfl, rfl, rfl, rfl, rfl⟩ rfl rfl rfl rfl rfl (by as_aux_lemma => kernel_rfl) Tryz.func6 ma_facts
  (of_decide_eq_true (by as_aux_lemma => kernel_rfl)) (by as_aux_lemma => (unfold Func.isWrapper; first | (rw [if_pos (by decide +kernel)]; kernel_rfl) | (rw [if_neg (by decide +kernel)]; exact ⟨rfl, rfl⟩)))
  (fun os started H enc _ F => by rw [OpenClaim.pre_eq_preRow]; exact ma_lifted os started H enc F)
theorem ma_plain (f : FuncId) (fn : Func) (hf : Tryz.pinned.checked.prog.funcNamed "pionsdp/laws.FnMarshal" = some f) (hfn : Tryz.pinned.checked.prog.funcs[f]? = some fn) :
 true = Tryz.pinned.checked.prog.looks [] ∧ ∀ (j : Nat) t, fn.params[j]? = some t → Tryz.pinned.checked.prog.wantsStandIn t = false := by
 obtain rfl : f = 6 := Option.some.inj ((show Tryz.prog.funcNamed "pionsdp/laws.FnMarshal" = some 6 by kernel_rfl).symm.trans hf) |>.symm
 obtain rfl : fn = Tryz.f6 := (Option.some.inj (Tryz.func6.symm.trans hfn)).symm
 refine ⟨by kernel_rfl, fun j t ht => ?_⟩
 rw [Tryz.params6] at ht
 obtain rfl : t = 33 := by simpa using Array.mem_of_getElem? ht
 exact (show Tryz.prog.wantsStandIn 33 = false by kernel_rfl)
theorem ma_card : Rows.FnMarshalCardSaid :=
 Claim7.holds_tied_plain_at .later [] _ _ _ _ ma_said (fun _ h => by cases h) (by as_aux_lemma => kernel_rfl) (fun _ h => by cases h) fnMarshal_row_tie rfl ⟨rfl, rfl⟩ (by as_aux_lemma => kernel_rfl) rfl ma_plain (by as_aux_lemma => kernel_rfl)
end Go.Proofs.YtcepdjlknalmnaaGreatDoor
