/- FnUnmarshal's walk. UNDER WAY. -/
import Derived.Test.YtcepdjlknalmnaaGreatDoorSam
import Derived.Test.YtcepdjlknalmnaaGreatDoorWrk
import Derived.Test.YtcepdjlknalmnaaGreatDoorSes
import Derived.Test.YtcepdjlknalmnaaGreatDoorOwnB
import Derived.Test.YtcepdjlknalmnaaGreatDoorJln
namespace Go.Proofs.YtcepdjlknalmnaaGreatDoor
open Go.RowKit
set_option linter.unusedSimpArgs false
set_option linter.unusedVariables false
section
variable {P : Program} {ops : Array Oper} {Q : Exit → Act → World → Prop} {md : Region.Mode} {S : World → Prop} {z : Nat}
/-- S may be made stronger on the way. -/
theorem wpAnyZ_str {S' : World → Prop} (hS : ∀ w, S' w → S w) : ∀ {fuel : Nat} {listed : Array Bool} {a : Act} {w : World}, wpAnyZ P md ops Q S' z fuel listed a w → wpAnyZ P md ops Q S z fuel listed a w
  | 0, _, _, _, h => h
  | _ + 1, _, _, _, h => ⟨h.1, fun i hi => wpOp_mono (fun a' w' h' => ⟨fun hz => hS _ (h'.1 hz), wpAnyZ_str hS h'.2⟩) (h.2 i hi)⟩
theorem tkZ (i : Nat) (C : List Nat) {oi : Oper} {v : Value} {fuel : Nat} {listed : Array Bool} {a : Act} {w : World} (hi : ops.toList[i]? = some oi)
    (hb : (Region.noSelect ops && Region.free md ops listed i && (Region.ready md ops listed).contains i && chainB md ops listed i z C) = true)
    (hQ : ∀ c a w, Q (.panic c) (a.put oi.dst v) w → Q (.panic c) a w) (hy : YieldsIf P ops S oi v a) (hS : S w)
    (h : wpAnyZ P md ops Q S z fuel (listed.setIfInBounds i true) (a.put oi.dst v) w) : wpAnyZ P md ops Q S z (fuel + 1) listed a w := by
  simp only [Bool.and_eq_true] at hb
  exact wpAnyZ_takeC C (by simpa using hi) hb.1.1.1 hb.1.1.2 hb.1.2 hb.2 hQ hy hS h
/-- One step of an order. -/
def StZ (P : Program) (md : Region.Mode) (ops : Array Oper) (Q : Exit → Act → World → Prop) (S : World → Prop) (z fuel : Nat) (listed : Array Bool) (a : Act) (w : World) (i : Nat) (o : Oper) : Prop :=
  ∀ K' : Act → World → Prop, Shut (∀ a w, S w → (S w → wpAnyZ P md ops Q S z fuel (listed.setIfInBounds i true) a w) → K' a w) → if Region.wanted o (yielded ops a.tmps) = true then Oper.wp P o a w K' Q else K' (a.put o.dst undef) w
theorem stZ1 (i : Nat) {o : Oper} {fuel : Nat} {listed : Array Bool} {a : Act} {w : World} (hr : Region.ready md ops listed = [i]) (ho : ops.toList[i]? = some o) (hz : i ≠ z)
    (h : StZ P md ops Q S z fuel listed a w i o) : wpAnyZ P md ops Q S z (fuel + 1) listed a w := wpAnyZ_one hr (by simpa using ho) hz h
theorem stZ2 (i j : Nat) {o o' : Oper} {fuel : Nat} {listed : Array Bool} {a : Act} {w : World} (hr : Region.ready md ops listed = [i, j]) (ho : ops.toList[i]? = some o) (ho' : ops.toList[j]? = some o') (hz : i ≠ z ∧ j ≠ z)
    (h : StZ P md ops Q S z fuel listed a w i o) (h' : StZ P md ops Q S z fuel listed a w j o') : wpAnyZ P md ops Q S z (fuel + 1) listed a w :=
  ⟨(fun h0 => by rw [hr] at h0; cases h0), fun k hk => by
    rw [hr] at hk
    simp only [List.mem_cons, List.not_mem_nil, or_false] at hk
    rcases hk with rfl | rfl
    · exact wpOp_step (by simpa using ho) (fun K' hK => h K' (fun a w hS hW => hK a w ⟨fun _ => hS, hW hS⟩))
    · exact wpOp_step (by simpa using ho') (fun K' hK => h' K' (fun a w hS hW => hK a w ⟨fun _ => hS, hW hS⟩))⟩
theorem stZ3 (i j k0 : Nat) {o o' o2 : Oper} {fuel : Nat} {listed : Array Bool} {a : Act} {w : World} (hr : Region.ready md ops listed = [i, j, k0]) (ho : ops.toList[i]? = some o) (ho' : ops.toList[j]? = some o') (ho2 : ops.toList[k0]? = some o2) (hz : i ≠ z ∧ j ≠ z ∧ k0 ≠ z)
    (h : StZ P md ops Q S z fuel listed a w i o) (h' : StZ P md ops Q S z fuel listed a w j o') (h2 : StZ P md ops Q S z fuel listed a w k0 o2) : wpAnyZ P md ops Q S z (fuel + 1) listed a w :=
  ⟨(fun h0 => by rw [hr] at h0; cases h0), fun k hk => by
    rw [hr] at hk
    simp only [List.mem_cons, List.not_mem_nil, or_false] at hk
    rcases hk with rfl | rfl | rfl
    · exact wpOp_step (by simpa using ho) (fun K' hK => h K' (fun a w hS hW => hK a w ⟨fun _ => hS, hW hS⟩))
    · exact wpOp_step (by simpa using ho') (fun K' hK => h' K' (fun a w hS hW => hK a w ⟨fun _ => hS, hW hS⟩))
    · exact wpOp_step (by simpa using ho2) (fun K' hK => h2 K' (fun a w hS hW => hK a w ⟨fun _ => hS, hW hS⟩))⟩
theorem stZ_last {o : Oper} {fuel : Nat} {listed : Array Bool} {a : Act} {w : World} (hr : Region.ready md ops listed = [z]) (ho : ops.toList[z]? = some o) (hl : Region.ready md ops (listed.setIfInBounds z true) = [])
    (h : ∀ K' : Act → World → Prop, Shut (∀ a w, Q .normal a w → K' a w) → if Region.wanted o (yielded ops a.tmps) = true then Oper.wp P o a w K' Q else K' (a.put o.dst undef) w) :
    wpAnyZ P md ops Q S z (fuel + 1) listed a w := wpAnyZ_last hr (by simpa using ho) hl h
end
/-- The cells of a block. -/
def rowOf (w : World) (g : Nat) : Array Value := match w.heap[g]? with
  | some (.cells c _ _) => c
  | _ => #[]
theorem rowOf_blk {w : World} {g : Nat} {l : List Value} {t : TypeId} (h : Blk w g l t) : rowOf w g = l.toArray := by
  unfold Blk at h
  simp [rowOf, h]
theorem rowOf_drew (w : World) (g : Nat) : rowOf w.drew g = rowOf w g := rfl
def loadOk (w : World) (n : Nat) (t : TypeId) : Value → Bool
  | .pointer (some ⟨g, 0, none⟩) => rowIs w g n t
  | _ => false
theorem loadOk_row (w : World) (n : Nat) (t : TypeId) (g : Nat) : loadOk w n t (.pointer (some ⟨g, 0, none⟩)) = rowIs w g n t := rfl
theorem wp_load33 (d : Option Tmp) (i : Tmp) (ty : TypeId) (pos : String) (after : Array Edge) (gd : Option (Nat × Bool)) (a : Act) (w : World) (K : Act → World → Prop) (Q : Exit → Act → World → Prop)
    (h : loadOk w 19 33 (a.eval (.tmp i)) = true) :
    Oper.wp Tryz.prog ⟨d, .load 33 (.tmp i), ty, pos, after, gd⟩ a w K Q = K (a.put d (.agg (rowOf w (blockOf (a.eval (.tmp i)))))) w := by
  unfold loadOk at h
  split at h
  · rename_i g h1
    unfold rowIs at h
    split at h
    · rename_i c t' fr hg
      simp only [Bool.and_eq_true, beq_iff_eq] at h
      obtain ⟨⟨h3, rfl⟩, rfl⟩ := h
      have hi : (Tryz.prog.info? 33).map (·.size) = some c.size := by rw [h3]; kernel_rfl
      have h2 := run_loadVar_row w g 33 33 c (0, 0) _ hg Tryz.underlying33 rfl hi
      have h4 : rowOf w g = c := by simp [rowOf, hg]
      unfold Oper.wp execOp
      simp only [h1, Instr.loadAt, Instr.sureAddr, Sem.run_bind, Sem.run_pure, Result.andThen_ok, h2, blockOf_ptr, h4]
      rfl
    · cases h
  · cases h
theorem wp_load43 (d : Option Tmp) (i : Tmp) (ty : TypeId) (pos : String) (after : Array Edge) (gd : Option (Nat × Bool)) (a : Act) (w : World) (K : Act → World → Prop) (Q : Exit → Act → World → Prop)
    (h : loadOk w 19 43 (a.eval (.tmp i)) = true) :
    Oper.wp Tryz.prog ⟨d, .load 43 (.tmp i), ty, pos, after, gd⟩ a w K Q = K (a.put d (.agg (rowOf w (blockOf (a.eval (.tmp i)))))) w := by
  unfold loadOk at h
  split at h
  · rename_i g h1
    unfold rowIs at h
    split at h
    · rename_i c t' fr hg
      simp only [Bool.and_eq_true, beq_iff_eq] at h
      obtain ⟨⟨h3, rfl⟩, rfl⟩ := h
      have hi : (Tryz.prog.info? 43).map (·.size) = some c.size := by rw [h3]; kernel_rfl
      have h2 := run_loadVar_row w g 43 43 c (0, 0) _ hg Tryz.underlying43 rfl hi
      have h4 : rowOf w g = c := by simp [rowOf, hg]
      unfold Oper.wp execOp
      simp only [h1, Instr.loadAt, Instr.sureAddr, Sem.run_bind, Sem.run_pure, Result.andThen_ok, h2, blockOf_ptr, h4]
      rfl
    · cases h
  · cases h
theorem flat_le2 {α β γ : Type} {f : α → List β} {g : α → List γ} (h : ∀ x, (f x).length ≤ (g x).length) : ∀ (l : List α), (l.flatMap f).length ≤ (l.flatMap g).length
  | [] => Nat.le_refl _
  | x :: l => by
    simp only [List.flatMap_cons, List.length_append]
    have := h x
    have := flat_le2 h l
    omega
theorem cons_le (x : Ssn) : (consOf x).length ≤ (lns x).length := by
  have h := flat_le2 (f := fun m : Med => m.conn) (g := medLns) (fun m => by simp only [medLns, List.length_cons, List.length_append, List.length_map]; omega) x.media
  simp only [consOf, lns, List.length_cons, List.length_append, List.length_map]
  omega
/-- The text of a bare proper session, by either end, is read as the session. -/
theorem um_read {x : Ssn} {w3 : World} {v0 v1 v2 v3 v4 v5 v6 v7 v8 v9 v10 : Value} (m : SsnAt w3 x v0 v1 v2 v3 v4 v5 v6 v7 v8 v9 v10) (hf : fitB1 x = true) (hp : proper x = true) (hb : bare x = true) (ed : ByteArray) (hd : isEnd (bs ed)) (a : Addr) (hE : Eof w3 a) :
    ∃ tx : ByteArray, (∀ (W : World) (B : Nat) (v : Value), RowS W B v (linesB x) → Calls Tryz.prog 14 #[v, .string ed] W fun e w' => e = .returned (.string tx) ∧ w' = W) ∧
      ∀ W, Nw w3 W → Calls Tryz.prog 13 #[.string tx] W fun e w' => ∃ u0 u1 u2 u3 u4 u5 u6 u7 u8 u9 u10, e = .returned (.tuple #[ssnVal x u0 u1 u2 u3 u4 u5 u6 u7 u8 u9 u10, .bool true]) ∧ Foot (fun W' => SsnAt W' x u0 u1 u2 u3 u4 u5 u6 u7 u8 u9 u10) w' (fun k => W.heap.size ≤ k) ∧ Nw W w' := by
  obtain ⟨b1, b2⟩ := ssn_fit m hf
  obtain ⟨h1, h2, h3, h4, h5⟩ := lns_ok hp b1
  have hl : (bs ed).length ≤ 2 := by rcases hd with h | h <;> rw [h] <;> decide
  have hj := join_fit m hf hp (bs ed) hl
  have hj2 : (joinEnds (bs ed) (linesB x)).length ≤ strMax := by unfold strMax; omega
  refine ⟨mk (joinEnds (bs ed) (linesB x)), fun W B v hr => ?_, fun W hW => ?_⟩
  · exact spec_Text (linesB x) v ed W (RowS.sl hr (lns_bound m hf hp)) (by simpa using (show (bs ed).length ≤ 10 by omega)) hj2
  · have hu := unm_lines m hf hp W (bs ed) [] a (by simpa using hj2) (hE.nw hW) hd (.inl rfl)
    rw [List.append_nil] at hu
    refine hu.mono ?_
    rintro e w' ⟨hn, ⟨_, v, rfl, hv⟩ | ⟨h, _⟩⟩
    · rw [flat_bare h5 hb] at hv
      obtain ⟨u0, u1, u2, u3, u4, u5, u6, u7, u8, u9, u10, rfl, mt⟩ := hv.now
      refine ⟨u0, u1, u2, u3, u4, u5, u6, u7, u8, u9, u10, rfl, fun W' hW' => ?_, hn⟩
      obtain ⟨t0, t1, t2, t3, t4, t5, t6, t7, t8, t9, t10, e, mt'⟩ := hv W' hW'
      unfold ssnVal at e
      simp only [Value.agg.injEq, Array.mk.injEq, List.cons.injEq, and_true, true_and] at e
      obtain ⟨rfl, rfl, rfl, rfl, rfl, rfl, rfl, rfl, rfl, rfl, rfl⟩ := e
      exact mt'
    · exact absurd rfl h
theorem um_ends : ∀ (i : Nat), i < 2 → ∃ ed : ByteArray, isEnd (bs ed) ∧ ([.string ⟨#[13, 10]⟩, .string ⟨#[10]⟩] : List Value)[i]? = some (.string ed)
  | 0, _ => ⟨⟨#[13, 10]⟩, .inl rfl, rfl⟩
  | 1, _ => ⟨⟨#[10]⟩, .inr rfl, rfl⟩
  | _ + 2, h => absurd h (by omega)
theorem run_load33g {w : World} {g : Nat} {l : List Value} {d : Option Tmp} {i : Tmp} {ty : TypeId} {pos : String} {after : Array Edge} {gd : Option (Nat × Bool)} {a : Act} (h : Blk w g l 33) (hl : l.length = 19) (ha : a.eval (.tmp i) = .pointer (some ⟨g, 0, none⟩)) :
    (execOp a.eval ⟨d, .load 33 (.tmp i), ty, pos, after, gd⟩).run Tryz.prog w = .ok (.value (.agg l.toArray)) w := by
  have hi : (Tryz.prog.info? 33).map (·.size) = some l.toArray.size := by rw [List.size_toArray, hl]; kernel_rfl
  have h1 := run_loadVar_row w g 33 33 l.toArray (0, 0) _ h Tryz.underlying33 rfl hi
  unfold execOp
  simp only [ha, Instr.loadAt, Instr.sureAddr, Sem.run_bind, Sem.run_pure, Result.andThen_ok, h1]
theorem run_load43g {w : World} {g : Nat} {l : List Value} {d : Option Tmp} {i : Tmp} {ty : TypeId} {pos : String} {after : Array Edge} {gd : Option (Nat × Bool)} {a : Act} (h : Blk w g l 43) (hl : l.length = 19) (ha : a.eval (.tmp i) = .pointer (some ⟨g, 0, none⟩)) :
    (execOp a.eval ⟨d, .load 43 (.tmp i), ty, pos, after, gd⟩).run Tryz.prog w = .ok (.value (.agg l.toArray)) w := by
  have hi : (Tryz.prog.info? 43).map (·.size) = some l.toArray.size := by rw [List.size_toArray, hl]; kernel_rfl
  have h1 := run_loadVar_row w g 43 43 l.toArray (0, 0) _ h Tryz.underlying43 rfl hi
  unfold execOp
  simp only [ha, Instr.loadAt, Instr.sureAddr, Sem.run_bind, Sem.run_pure, Result.andThen_ok, h1]
abbrev zs33 : List Value := [.int .i64 0, .string ⟨#[]⟩, .int .u64 0, .int .u64 0, .string ⟨#[]⟩, .string ⟨#[]⟩, .string ⟨#[]⟩, .string ⟨#[]⟩, .slice none 0 0, .slice none 0 0, .slice none 0 0, .slice none 0 0, .slice none 0 0, .slice none 0 0, .slice none 0 0, .slice none 0 0, .slice none 0 0, .slice none 0 0, .slice none 0 0]
theorem new_blk (w : World) (l : List Value) (t : TypeId) : ∃ g w', Blk w' g l t ∧ Nw w w' ∧ w.heap.size ≤ g ∧ g = w.heap.size ∧ w' = w.alloc (.cells l.toArray t) :=
  ⟨_, _, Blk.made w l t, (Nw.refl w).alloc _, Nat.le_refl _, rfl, rfl⟩
theorem ssn_form {w : World} {x : Ssn} {u0 u1 u2 u3 u4 u5 u6 u7 u8 u9 u10 : Value} (m : SsnAt w x u0 u1 u2 u3 u4 u5 u6 u7 u8 u9 u10) : ∃ C0 C1 C2 C3 C4 C5 C6 C7 C8 C9 C10 c0 c1 c2 c3 c4 c5 c6 c7 c8 c9 c10, u0 = .slice C0 x.info.length c0 ∧ u1 = .slice C1 x.uri.length c1 ∧ u2 = .slice C2 x.email.length c2 ∧ u3 = .slice C3 x.phone.length c3 ∧ u4 = .slice C4 x.conn.length c4 ∧ u5 = .slice C5 x.bws.length c5 ∧ u6 = .slice C6 x.times.length c6 ∧ u7 = .slice C7 x.zones.length c7 ∧ u8 = .slice C8 x.key.length c8 ∧ u9 = .slice C9 x.atts.length c9 ∧ u10 = .slice C10 x.media.length c10 := by
  obtain ⟨C0, c0, e0⟩ := Ty.Sl_form m.info
  obtain ⟨C1, c1, e1⟩ := Ty.Sl_form m.uri
  obtain ⟨C2, c2, e2⟩ := Ty.Sl_form m.email
  obtain ⟨C3, c3, e3⟩ := Ty.Sl_form m.phone
  obtain ⟨C4, c4, e4⟩ := Ty.Sl_form m.conn
  obtain ⟨C5, c5, e5⟩ := Ty.Sl_form m.bws
  obtain ⟨C6, c6, e6⟩ := Ty.Sl_form m.times
  obtain ⟨C7, c7, e7⟩ := Ty.Sl_form m.zones
  obtain ⟨C8, c8, e8⟩ := Ty.Sl_form m.key
  obtain ⟨C9, c9, e9⟩ := Ty.Sl_form m.atts
  obtain ⟨C10, c10, e10⟩ := Ty.Sl_form m.media
  exact ⟨C0, C1, C2, C3, C4, C5, C6, C7, C8, C9, C10, c0, c1, c2, c3, c4, c5, c6, c7, c8, c9, c10, e0, e1, e2, e3, e4, e5, e6, e7, e8, e9, e10⟩
theorem um_keep {w3 z : World} {sx g gS i : Nat} {l Y lS : List Value} {v : Value} (hwg : w3.heap.size ≤ g) (HY : Blk w3 sx Y 43) (hq : Nw w3 z) (hG : Blk z g l 33) (hS : Blk z gS lS 9) (hv : lS[i]? = some v) (cs : Array Value) :
    Blk (z.setRow g cs) sx Y 43 ∧ (z.setRow g cs).cell? ⟨gS, i, none⟩ = some v := by
  have h1 := Blk.lt HY
  refine ⟨(HY.nw hq).fr (fr_setRow _ g _) (by omega), (hS.fr (fr_setRow _ g _) (fun e => ?_)).cell i hv⟩
  subst e
  unfold Blk at hG hS
  rw [hG] at hS
  cases hS
theorem um_end {w3 z3 W : World} {g n : Nat} {l l2 : List Value} {x : Ssn} {u0 u1 u2 u3 u4 u5 u6 u7 u8 u9 u10 : Value} (hq : Nw w3 z3) (hG : Blk W g l 33) (hW : Nw z3 W) (hF : Foot (fun W' => SsnAt W' x u0 u1 u2 u3 u4 u5 u6 u7 u8 u9 u10) z3 (fun k => n ≤ k)) (hg : g < n ∨ z3.heap.size ≤ g) (h3 : w3.heap.size ≤ g) :
    Blk (W.setRow g l2.toArray) g l2 33 ∧ SsnAt (W.setRow g l2.toArray) x u0 u1 u2 u3 u4 u5 u6 u7 u8 u9 u10 ∧ Nw w3 (W.setRow g l2.toArray) := by
  have h := fr_setRow W g l2.toArray
  refine ⟨blk_setRow hG, hF _ (fun k hk hlt => ?_), (hq.trans hW).setRow h3 _⟩
  rw [h.block k (Nat.lt_of_lt_of_le hlt hW.size) (by omega), hW.block k hlt]
attribute [local go_sem ↓] Go.wp_at_zero Go.wp_at_succ wp_store43 wp_store33 wp_load33 wp_load43
attribute [local go_sem] storeOk_row loadOk_row rowOf_drew rowIs_made rowIs_drew oneC_int oneC_string oneC_slice blockOf_ptr cellsOf_agg

set_option maxRecDepth 100000 in
set_option maxHeartbeats 4000000 in
theorem law_unmarshal (x : Ssn) (e : Int) (a : Addr) (w : World) (v0 v1 v2 v3 v4 v5 v6 v7 v8 v9 v10 : Value) (m : SsnAt w x v0 v1 v2 v3 v4 v5 v6 v7 v8 v9 v10) (hE : Eof w a) (he : WfInt .i64 e) :
    Calls Tryz.prog 4 #[ssnVal x v0 v1 v2 v3 v4 v5 v6 v7 v8 v9 v10, .int .i64 e] w fun r w' => r = .returned (.bool true) ∧ Nw w w' := by
  unfold ssnVal
  obtain ⟨A0, n0, rfl⟩ := Ty.Sl_form m.info
  obtain ⟨A1, n1, rfl⟩ := Ty.Sl_form m.uri
  obtain ⟨A2, n2, rfl⟩ := Ty.Sl_form m.email
  obtain ⟨A3, n3, rfl⟩ := Ty.Sl_form m.phone
  obtain ⟨A4, n4, rfl⟩ := Ty.Sl_form m.conn
  obtain ⟨A5, n5, rfl⟩ := Ty.Sl_form m.bws
  obtain ⟨A6, n6, rfl⟩ := Ty.Sl_form m.times
  obtain ⟨A7, n7, rfl⟩ := Ty.Sl_form m.zones
  obtain ⟨A8, n8, rfl⟩ := Ty.Sl_form m.key
  obtain ⟨A9, n9, rfl⟩ := Ty.Sl_form m.atts
  obtain ⟨A10, n10, rfl⟩ := Ty.Sl_form m.media
  have M := Lib.hid m
  obtain ⟨wA, hwA⟩ : ∃ wA, wA = w.alloc (.cells #[.int .i64 x.ver, .string x.org.user, .int .u64 x.org.id, .int .u64 x.org.ver, .string x.org.net, .string x.org.addr, .string x.org.adr, .string x.name, .slice A0 x.info.length n0, .slice A1 x.uri.length n1, .slice A2 x.email.length n2, .slice A3 x.phone.length n3, .slice A4 x.conn.length n4, .slice A5 x.bws.length n5, .slice A6 x.times.length n6, .slice A7 x.zones.length n7, .slice A8 x.key.length n8, .slice A9 x.atts.length n9, .slice A10 x.media.length n10] 33) := ⟨_, rfl⟩
  have qA : Nw w wA := by rw [hwA]; exact (Nw.refl w).alloc _
  have HX : Blk wA w.heap.size [.int .i64 x.ver, .string x.org.user, .int .u64 x.org.id, .int .u64 x.org.ver, .string x.org.net, .string x.org.addr, .string x.org.adr, .string x.name, .slice A0 x.info.length n0, .slice A1 x.uri.length n1, .slice A2 x.email.length n2, .slice A3 x.phone.length n3, .slice A4 x.conn.length n4, .slice A5 x.bws.length n5, .slice A6 x.times.length n6, .slice A7 x.zones.length n7, .slice A8 x.key.length n8, .slice A9 x.atts.length n9, .slice A10 x.media.length n10] 33 := by rw [hwA]; exact Blk.made w _ 33
  have MA := Lib.hid (m.loc (Nw.block qA))
  clear m
  go_enter Tryz.func4, Tryz.ntmps4
  go_upto_region 1 with fail
  rw [← hwA]
  have HF := Lib.hid (fun w1 (q : Nw wA w1) => zz1 x _ _ _ _ _ _ _ _ _ _ _ w1 (SsnAt.loc (Nw.block q) MA.out))
  unfold ssnVal at HF
  obtain ⟨bx, hbx⟩ : ∃ g, g = w.heap.size := ⟨_, rfl⟩
  rw [← hbx] at HX ⊢
  clear hbx hwA
  apply wp_region_lit
  refine wpList_load_row rfl 33 (.tmp 2) rfl bx rfl 33 _ (0, 0) _ HX Tryz.underlying33 rfl (by kernel_rfl) ?_
  cases hf : fitB1 x
  · rw [hf] at HF
    clear hf
    go_wp2_with (go_at_call 8; (with_reducible refine (HF.out _ (Nw.refl _)).mono ?_); rintro r w1 ⟨rfl, hn1⟩)
    go_ret
    exact ⟨rfl, qA.trans hn1⟩
  rw [hf] at HF
  have HT := Lib.hid hf
  clear hf
  go_upto_region 3 with (go_at_call 8; (with_reducible refine (HF.out _ (Nw.refl _)).mono ?_); rintro r w1 ⟨rfl, hn1⟩)
  have hp1 : Nw wA w1 := hn1
  have HSs := Lib.hid (law_session x w1 _ _ _ _ _ _ _ _ _ _ _ (SsnAt.loc (Nw.block hp1) MA.out) (ssn_sizes HT.out).2.2.2.1 (ssn_sizes HT.out).2.2.2.2.1 (ssn_sizes HT.out).2.2.2.2.2.1 (ssn_sizes HT.out).2.2.2.2.2.2)
  unfold ssnVal at HSs
  apply wp_region_lit
  refine wpList_load_row rfl 33 (.tmp 2) rfl bx rfl 33 _ (0, 0) _ (HX.nw hp1) Tryz.underlying33 rfl (by kernel_rfl) ?_
  go_upto_region 4 with (go_at_call 9; (with_reducible refine HSs.out.mono ?_); rintro r w2 ⟨v, rfl, ⟨t0, t1, t2, t3, t4, t5, t6, t7, t8, t9, t10, rfl, mt⟩, hn2⟩; unfold ssnVal; obtain ⟨B0, b0, rfl⟩ := Ty.Sl_form mt.info; obtain ⟨B1, b1, rfl⟩ := Ty.Sl_form mt.uri; obtain ⟨B2, b2, rfl⟩ := Ty.Sl_form mt.email; obtain ⟨B3, b3, rfl⟩ := Ty.Sl_form mt.phone; obtain ⟨B4, b4, rfl⟩ := Ty.Sl_form mt.conn; obtain ⟨B5, b5, rfl⟩ := Ty.Sl_form mt.bws; obtain ⟨B6, b6, rfl⟩ := Ty.Sl_form mt.times; obtain ⟨B7, b7, rfl⟩ := Ty.Sl_form mt.zones; obtain ⟨B8, b8, rfl⟩ := Ty.Sl_form mt.key; obtain ⟨B9, b9, rfl⟩ := Ty.Sl_form mt.atts; obtain ⟨B10, b10, rfl⟩ := Ty.Sl_form mt.media)
  obtain ⟨sx, hsx⟩ : ∃ g, g = w2.heap.size := ⟨_, rfl⟩
  obtain ⟨w3, hw3⟩ : ∃ w3, w3 = (w2.alloc (.cells #[.int .i64 0, .string ⟨#[]⟩, .int .u64 0, .int .u64 0, .string ⟨#[]⟩, .string ⟨#[]⟩, .string ⟨#[]⟩, .string ⟨#[]⟩, .slice none 0 0, .slice none 0 0, .slice none 0 0, .slice none 0 0, .slice none 0 0, .slice none 0 0, .slice none 0 0, .slice none 0 0, .slice none 0 0, .slice none 0 0, .slice none 0 0] 43)).setRow sx #[.int .i64 x.ver, .string x.org.user, .int .u64 x.org.id, .int .u64 x.org.ver, .string x.org.net, .string x.org.addr, .string x.org.adr, .string x.name, .slice B0 x.info.length b0, .slice B1 x.uri.length b1, .slice B2 x.email.length b2, .slice B3 x.phone.length b3, .slice B4 x.conn.length b4, .slice B5 x.bws.length b5, .slice B6 x.times.length b6, .slice B7 x.zones.length b7, .slice B8 x.key.length b8, .slice B9 x.atts.length b9, .slice B10 x.media.length b10] := ⟨_, rfl⟩
  have HY : Blk w3 sx [.int .i64 x.ver, .string x.org.user, .int .u64 x.org.id, .int .u64 x.org.ver, .string x.org.net, .string x.org.addr, .string x.org.adr, .string x.name, .slice B0 x.info.length b0, .slice B1 x.uri.length b1, .slice B2 x.email.length b2, .slice B3 x.phone.length b3, .slice B4 x.conn.length b4, .slice B5 x.bws.length b5, .slice B6 x.times.length b6, .slice B7 x.zones.length b7, .slice B8 x.key.length b8, .slice B9 x.atts.length b9, .slice B10 x.media.length b10] 43 := by rw [hw3, hsx]; exact blk_setRow (l2 := [.int .i64 x.ver, .string x.org.user, .int .u64 x.org.id, .int .u64 x.org.ver, .string x.org.net, .string x.org.addr, .string x.org.adr, .string x.name, .slice B0 x.info.length b0, .slice B1 x.uri.length b1, .slice B2 x.email.length b2, .slice B3 x.phone.length b3, .slice B4 x.conn.length b4, .slice B5 x.bws.length b5, .slice B6 x.times.length b6, .slice B7 x.zones.length b7, .slice B8 x.key.length b8, .slice B9 x.atts.length b9, .slice B10 x.media.length b10]) (Blk.made w2 [.int .i64 0, .string ⟨#[]⟩, .int .u64 0, .int .u64 0, .string ⟨#[]⟩, .string ⟨#[]⟩, .string ⟨#[]⟩, .string ⟨#[]⟩, .slice none 0 0, .slice none 0 0, .slice none 0 0, .slice none 0 0, .slice none 0 0, .slice none 0 0, .slice none 0 0, .slice none 0 0, .slice none 0 0, .slice none 0 0, .slice none 0 0] 43)
  have q23 : Nw w2 w3 := by rw [hw3]; exact ((Nw.refl w2).alloc _).setRow (by omega) _
  rw [← hsx, ← hw3]
  clear hw3 hsx
  have hp3 : Nw wA w3 := (hp1.trans hn2).trans q23
  have MB := Lib.hid (SsnAt.loc (Nw.block q23) mt)
  clear mt
  have HP := Lib.hid (fun w4 (q : Nw w3 w4) => spec_Proper x _ _ _ _ _ _ _ _ _ _ _ w4 (SsnAt.loc (Nw.block q) MB.out))
  unfold ssnVal at HP
  have HW := Lib.hid (fun w4 (q : Nw w w4) => law_works w4 a (hE.nw q))
  cases hp : proper x
  · rw [hp] at HP
    clear hp
    apply wp_region_lit
    refine wpList_load_row rfl 43 (.tmp 5) rfl sx rfl 43 _ (0, 0) _ HY Tryz.underlying43 rfl (by kernel_rfl) ?_
    go_wp2_with (first
      | (go_at_call 11; (with_reducible refine (HP.out _ (Nw.refl _)).mono ?_); rintro r w4 ⟨rfl, hn4⟩)
      | (go_at_call 12; (with_reducible refine (HW.out _ ((qA.trans hp3).trans hn4)).mono ?_); rintro r w5 ⟨rfl, hn5⟩))
    go_ret
    exact ⟨rfl, ((qA.trans hp3).trans hn4).trans hn5⟩
  rw [hp] at HP
  have hcl : (consOf x).length ≤ 1099511627776 := by
    have h1 := (lns_ok hp (ssn_fit MB.out HT.out).1).2.1
    have h2 := cons_le x
    have h3 := wts_len (lns x)
    omega
  have HB := Lib.hid (fun w4 (q : Nw w3 w4) => spec_Bare x _ _ _ _ _ _ _ _ _ _ _ w4 (SsnAt.loc (Nw.block q) MB.out) hcl)
  unfold ssnVal at HB
  have R3 := rowIs_blk (n := 19) HY rfl
  have O3 := rowOf_blk HY
  have HR := Lib.hid hp
  have HHE := Lib.hid he
  clear hp hcl he hn1 hn2 q23 HF HSs
  cases hb : bare x
  · rw [hb] at HB
    clear hb
    as_aux_lemma =>
      go_wp2_with (first | (go_at_call 11; (with_reducible refine (HP.out _ (Nw.refl _)).mono ?_); rintro r w4 ⟨rfl, hn4⟩; have R4 := rowIs_blk (n := 19) (HY.nw hn4) rfl; have O4 := rowOf_blk (HY.nw hn4)) | (go_at_call 15; (with_reducible refine (HB.out _ hn4).mono ?_); rintro r w5 ⟨rfl, hn5⟩) | (go_at_call 12; (with_reducible refine (HW.out _ (((qA.trans hp3).trans hn4).trans hn5)).mono ?_); rintro r w6 ⟨rfl, hn6⟩))
      go_ret
      exact ⟨rfl, (((qA.trans hp3).trans hn4).trans hn5).trans hn6⟩
  rw [hb] at HB
  have HBB := Lib.hid hb
  clear hb
  by_cases h0 : e < 0
  · as_aux_lemma =>
      go_wp2_with (first | (go_at_call 11; (with_reducible refine (HP.out _ (Nw.refl _)).mono ?_); rintro r w4 ⟨rfl, hn4⟩; have R4 := rowIs_blk (n := 19) (HY.nw hn4) rfl; have O4 := rowOf_blk (HY.nw hn4)) | (go_at_call 15; (with_reducible refine (HB.out _ hn4).mono ?_); rintro r w5 ⟨rfl, hn5⟩) | (go_at_call 12; (with_reducible refine (HW.out _ (((qA.trans hp3).trans hn4).trans hn5)).mono ?_); rintro r w6 ⟨rfl, hn6⟩))
      go_ret
      exact ⟨rfl, (((qA.trans hp3).trans hn4).trans hn5).trans hn6⟩
  by_cases h1 : 1 < e
  · as_aux_lemma =>
      go_wp2_with (first | (go_at_call 11; (with_reducible refine (HP.out _ (Nw.refl _)).mono ?_); rintro r w4 ⟨rfl, hn4⟩; have R4 := rowIs_blk (n := 19) (HY.nw hn4) rfl; have O4 := rowOf_blk (HY.nw hn4)) | (go_at_call 15; (with_reducible refine (HB.out _ hn4).mono ?_); rintro r w5 ⟨rfl, hn5⟩) | (go_at_call 12; (with_reducible refine (HW.out _ (((qA.trans hp3).trans hn4).trans hn5)).mono ?_); rintro r w6 ⟨rfl, hn6⟩))
      go_ret
      exact ⟨rfl, (((qA.trans hp3).trans hn4).trans hn5).trans hn6⟩
  obtain ⟨i, rfl, hi⟩ : ∃ i : Nat, e = (i : Int) ∧ i < 2 := ⟨e.toNat, by omega, by omega⟩
  obtain ⟨ed, hed, hee⟩ := um_ends i hi
  have HEE := Lib.hid hee
  have i1 : (0 : Int) ≤ (i : Int) := by omega
  have i2 : (i : Int) < 2 := by omega
  have i3 : (i : Int) ≤ 1 := by omega
  clear hee
  obtain ⟨tx, hx14, hx13⟩ := um_read MB.out HT.out HR.out HBB.out ed hed a (hE.nw (qA.trans hp3))
  have HX14 := Lib.hid hx14
  have HX13 := Lib.hid hx13
  unfold ssnVal at HX13
  have HL := Lib.hid (fun w6 (q : Nw w3 w6) => spec_Lines x _ _ _ _ _ _ _ _ _ _ _ w6 (SsnAt.loc (Nw.block q) MB.out) (lns_bound MB.out HT.out HR.out) (ssn_sizes HT.out).1 (ssn_sizes HT.out).2.1 (by have := (ssn_sizes HT.out).2.2.1; omega))
  unfold ssnVal at HL
  have HSA := Lib.hid (law_same x)
  have HSZ := Lib.hid (show Lns (linesB x) ∧ ConSz x.conn ∧ (∀ y ∈ x.media, ConSz y.conn) ∧ x.zones.length ≤ 274877906944 from ⟨lns_bound MB.out HT.out HR.out, (ssn_sizes HT.out).1, (ssn_sizes HT.out).2.1, (by have := (ssn_sizes HT.out).2.2.1; omega)⟩)
  have HSN := Lib.hid (law_session x)
  unfold ssnVal at HSN HSA
  have HSZ2 := Lib.hid (show _ ∧ _ ∧ _ ∧ _ from ⟨(ssn_sizes HT.out).2.2.2.1, (ssn_sizes HT.out).2.2.2.2.1, (ssn_sizes HT.out).2.2.2.2.2.1, (ssn_sizes HT.out).2.2.2.2.2.2⟩)
  clear hx14 hx13 hed
  go_upto_region 6 with (first | (go_at_call 11; (with_reducible refine (HP.out _ (Nw.refl _)).mono ?_); rintro r w4 ⟨rfl, hn4⟩; have R4 := rowIs_blk (n := 19) (HY.nw hn4) rfl; have O4 := rowOf_blk (HY.nw hn4)) | (go_at_call 15; (with_reducible refine (HB.out _ hn4).mono ?_); rintro r w5 ⟨rfl, hn5⟩))
  have hq5 : Nw w3 w5 := hn4.trans hn5
  clear R4 O4 R3 O3
  have R5 := rowIs_blk (n := 19) (HY.nw hq5) rfl
  have O5 := rowOf_blk (HY.nw hq5)
  clear hn5 HP HB
  go_cut [6, 7] from 8 to 40 (fun v6 v7 wc => ∃ g u0 u1 u2 u3 u4 u5 u6 u7 u8 u9 u10, v6 = .pointer (some ⟨g, 0, none⟩) ∧ v7 = .bool true ∧ Blk wc g [.int .i64 x.ver, .string x.org.user, .int .u64 x.org.id, .int .u64 x.org.ver, .string x.org.net, .string x.org.addr, .string x.org.adr, .string x.name, u0, u1, u2, u3, u4, u5, u6, u7, u8, u9, u10] 33 ∧ SsnAt wc x u0 u1 u2 u3 u4 u5 u6 u7 u8 u9 u10 ∧ Nw w3 wc)
  case first =>
    refine wp_region_Z 13 (fun w' => Blk w' sx [.int .i64 x.ver, .string x.org.user, .int .u64 x.org.id, .int .u64 x.org.ver, .string x.org.net, .string x.org.addr, .string x.org.adr, .string x.name, .slice B0 x.info.length b0, .slice B1 x.uri.length b1, .slice B2 x.email.length b2, .slice B3 x.phone.length b3, .slice B4 x.conn.length b4, .slice B5 x.bws.length b5, .slice B6 x.times.length b6, .slice B7 x.zones.length b7, .slice B8 x.key.length b8, .slice B9 x.atts.length b9, .slice B10 x.media.length b10] 43) (by kernel_rfl) (HY.nw hq5.drew) (fun hHeld => ?_)
    obtain ⟨z0, hz0⟩ : ∃ z, z = w5.drew := ⟨_, rfl⟩
    have hq0 : Nw w3 z0 := by rw [hz0]; exact hq5.drew
    rw [← hz0] at hHeld ⊢
    clear hz0 R5 O5
    refine' tkZ 0 [13] (oi := ?o101) (v := ?v101) ?h101 (by kernel_rfl) ?q101 (Or.inl ⟨?w101, ?y101⟩) hHeld ?r101
    case h101 => rfl
    case q101 => exact fun _ _ _ h => h
    case w101 => rfl
    case y101 => (intro w hSw; refine run_load43 hSw rfl ?_; rfl; first | done | (with_reducible rfl))
    try simp only [Act.put, List.setIfInBounds_toArray, List.set_cons_zero, List.set_cons_succ]
    refine' tkZ 3 [13] (oi := ?o102) (v := ?v102) ?h102 (by kernel_rfl) ?q102 (Or.inl ⟨?w102, ?y102⟩) hHeld ?r102
    case h102 => rfl
    case q102 => exact fun _ _ _ h => h
    case w102 => rfl
    case y102 => (intro w hSw; go_simp; first | done | (with_reducible rfl))
    try simp only [Act.put, List.setIfInBounds_toArray, List.set_cons_zero, List.set_cons_succ]
    refine' stZ3 1 2 11 (by kernel_rfl) rfl rfl rfl (by decide) (fun K hK => ?_) (fun K hK => ?_) (fun K hK => ?_)
    · (go_simp; go_at_call 10; (with_reducible refine (HL.out _ hq0).mono ?_); rintro e z1 ⟨vL, rfl, hr1, hs1⟩; obtain ⟨DL, eL, rfl, _⟩ := hr1.form)
      have hq1 := hq0.trans hs1
      refine hK.out _ _ ?_ (fun hHeld => ?_)
      · exact HY.nw hq1
      clear hK K
      try simp only [Act.put, List.setIfInBounds_toArray, List.set_cons_zero, List.set_cons_succ]
      refine' stZ2 2 11 (by kernel_rfl) rfl rfl (by decide) (fun K hK => ?_) (fun K hK => ?_)
      · go_simp
        obtain ⟨gS, z2, hS, hs2, hge, e1, e2⟩ := new_blk z1 [.string ⟨#[13, 10]⟩, .string ⟨#[10]⟩] 9
        rw [← e1, ← e2]
        clear e1 e2
        have hq2 := hq1.trans hs2
        have hr1 := hr1.nw hs2
        have cS := hS.cell i HEE.out
        refine hK.out _ _ ?_ (fun hHeld => ?_)
        · exact HY.nw hq2
        clear hK K
        try simp only [Act.put, List.setIfInBounds_toArray, List.set_cons_zero, List.set_cons_succ]
        refine wpAnyZ_str (S' := fun w' => Blk w' sx [.int .i64 x.ver, .string x.org.user, .int .u64 x.org.id, .int .u64 x.org.ver, .string x.org.net, .string x.org.addr, .string x.org.adr, .string x.name, .slice B0 x.info.length b0, .slice B1 x.uri.length b1, .slice B2 x.email.length b2, .slice B3 x.phone.length b3, .slice B4 x.conn.length b4, .slice B5 x.bws.length b5, .slice B6 x.times.length b6, .slice B7 x.zones.length b7, .slice B8 x.key.length b8, .slice B9 x.atts.length b9, .slice B10 x.media.length b10] 43 ∧ w'.cell? ⟨gS, i, none⟩ = some (.string ed)) (fun _ h => h.1) ?_
        replace hHeld := And.intro hHeld cS
        refine' tkZ 4 [13] (oi := ?o103) (v := ?v103) ?h103 (by kernel_rfl) ?q103 (Or.inl ⟨?w103, ?y103⟩) hHeld ?r103
        case h103 => rfl
        case q103 => exact fun _ _ _ h => h
        case w103 => rfl
        case y103 => (intro w hSw; go_simp; first | done | (with_reducible rfl))
        try simp only [Act.put, List.setIfInBounds_toArray, List.set_cons_zero, List.set_cons_succ]
        refine' tkZ 5 [13] (oi := ?o104) (v := ?v104) ?h104 (by kernel_rfl) ?q104 (Or.inl ⟨?w104, ?y104⟩) hHeld ?r104
        case h104 => rfl
        case q104 => exact fun _ _ _ h => h
        case w104 => rfl
        case y104 => (intro w hSw; obtain ⟨_, hSw⟩ := hSw; go_simp; first | done | (with_reducible rfl))
        try simp only [Act.put, List.setIfInBounds_toArray, List.set_cons_zero, List.set_cons_succ]
        refine' stZ2 6 11 (by kernel_rfl) rfl rfl (by decide) (fun K hK => ?_) (fun K hK => ?_)
        · (go_simp; go_at_call 14; (with_reducible refine (HX14.out _ _ _ hr1).mono ?_); rintro e z3 ⟨rfl, hzz⟩; have hzz := hzz.symm; subst hzz)
          refine hK.out _ _ ?_ (fun hHeld => ?_)
          · exact ⟨HY.nw hq2, cS⟩
          clear hK K
          try simp only [Act.put, List.setIfInBounds_toArray, List.set_cons_zero, List.set_cons_succ]
          refine' stZ2 7 11 (by kernel_rfl) rfl rfl (by decide) (fun K hK => ?_) (fun K hK => ?_)
          · have hlc := hq2.size
            (go_simp; go_at_call 13; (with_reducible refine (HX13.out _ hq2).mono ?_); rintro e z3 ⟨u0, u1, u2, u3, u4, u5, u6, u7, u8, u9, u10, rfl, hF3, hs3⟩)
            obtain ⟨C0, C1, C2, C3, C4, C5, C6, C7, C8, C9, C10, c0, c1, c2, c3, c4, c5, c6, c7, c8, c9, c10, rfl, rfl, rfl, rfl, rfl, rfl, rfl, rfl, rfl, rfl, rfl⟩ := ssn_form hF3.now
            have hq3 := hq2.trans hs3
            have cS := hs3.cell cS
            have hS := hS.nw hs3
            refine hK.out _ _ ?_ (fun hHeld => ?_)
            · exact ⟨HY.nw hq3, cS⟩
            clear hK K
            try simp only [Act.put, List.setIfInBounds_toArray, List.set_cons_zero, List.set_cons_succ]
            refine' tkZ 8 [13] (oi := ?o105) (v := ?v105) ?h105 (by kernel_rfl) ?q105 (Or.inl ⟨?w105, ?y105⟩) hHeld ?r105
            case h105 => rfl
            case q105 => exact fun _ _ _ h => h
            case w105 => rfl
            case y105 => (intro w hSw; go_simp; first | done | (with_reducible rfl))
            try simp only [Act.put, List.setIfInBounds_toArray, List.set_cons_zero, List.set_cons_succ]
            refine' tkZ 9 [13] (oi := ?o106) (v := ?v106) ?h106 (by kernel_rfl) ?q106 (Or.inl ⟨?w106, ?y106⟩) hHeld ?r106
            case h106 => rfl
            case q106 => exact fun _ _ _ h => h
            case w106 => rfl
            case y106 => (intro w hSw; go_simp; first | done | (with_reducible rfl))
            try simp only [Act.put, List.setIfInBounds_toArray, List.set_cons_zero, List.set_cons_succ]
            refine' tkZ 10 [13] (oi := ?o107) (v := ?v107) ?h107 (by kernel_rfl) ?q107 (Or.inl ⟨?w107, ?y107⟩) hHeld ?r107
            case h107 => rfl
            case q107 => exact fun _ _ _ h => h
            case w107 => rfl
            case y107 => (intro w hSw; go_simp; first | done | (with_reducible rfl))
            try simp only [Act.put, List.setIfInBounds_toArray, List.set_cons_zero, List.set_cons_succ]
            refine' stZ1 11 (by kernel_rfl) rfl (by decide) (fun K hK => ?_)
            go_simp
            obtain ⟨g, z4, hG, hs4, hge, e1, e2⟩ := new_blk z3 zs33 33
            rw [← e1, ← e2]
            clear e1 e2
            have hq4 := hq3.trans hs4
            have cS := hs4.cell cS
            have hS := hS.nw hs4
            have hwg := Nat.le_trans hq3.size hge
            refine hK.out _ _ ?_ (fun hHeld => ?_)
            · exact ⟨HY.nw hq4, cS⟩
            clear hK K
            try simp only [Act.put, List.setIfInBounds_toArray, List.set_cons_zero, List.set_cons_succ]
            have hR3 := rowIs_blk (n := 19) hG rfl
            refine' stZ1 12 (by kernel_rfl) rfl (by decide) (fun K hK => ?_)
            go_simp
            refine hK.out _ _ ?_ (fun hHeld => ?_)
            · exact um_keep hwg HY hq4 hG hS HEE.out _
            clear hK K
            try simp only [Act.put, List.setIfInBounds_toArray, List.set_cons_zero, List.set_cons_succ]
            refine' stZ_last (by kernel_rfl) rfl (by kernel_rfl) (fun K hK => ?_)
            go_simp
            refine hK.out _ _ ?_
            clear hK K
            go_wp2
            go_meet
            case rel =>
              obtain ⟨r1, r2, r3⟩ := um_end (l2 := [.int .i64 x.ver, .string x.org.user, .int .u64 x.org.id, .int .u64 x.org.ver, .string x.org.net, .string x.org.addr, .string x.org.adr, .string x.name, .slice C0 x.info.length c0, .slice C1 x.uri.length c1, .slice C2 x.email.length c2, .slice C3 x.phone.length c3, .slice C4 x.conn.length c4, .slice C5 x.bws.length c5, .slice C6 x.times.length c6, .slice C7 x.zones.length c7, .slice C8 x.key.length c8, .slice C9 x.atts.length c9, .slice C10 x.media.length c10]) hq3 hG hs4 hF3 (.inr hge) hwg
              exact ⟨g, _, _, _, _, _, _, _, _, _, _, _, rfl, rfl, r1, r2, r3⟩
          go_simp
          obtain ⟨g, z3, hG, hs3, hge, e1, e2⟩ := new_blk z2 zs33 33
          rw [← e1, ← e2]
          clear e1 e2
          have hq3 := hq2.trans hs3
          have cS := hs3.cell cS
          have hS := hS.nw hs3
          have hwg := Nat.le_trans hq2.size hge
          refine hK.out _ _ ?_ (fun hHeld => ?_)
          · exact ⟨HY.nw hq3, cS⟩
          clear hK K
          try simp only [Act.put, List.setIfInBounds_toArray, List.set_cons_zero, List.set_cons_succ]
          refine' stZ1 7 (by kernel_rfl) rfl (by decide) (fun K hK => ?_)
          have hlc := hq3.size
          have hgn := Blk.lt hG
          (go_simp; go_at_call 13; (with_reducible refine (HX13.out _ hq3).mono ?_); rintro e z4 ⟨u0, u1, u2, u3, u4, u5, u6, u7, u8, u9, u10, rfl, hF3, hs4⟩)
          obtain ⟨C0, C1, C2, C3, C4, C5, C6, C7, C8, C9, C10, c0, c1, c2, c3, c4, c5, c6, c7, c8, c9, c10, rfl, rfl, rfl, rfl, rfl, rfl, rfl, rfl, rfl, rfl, rfl⟩ := ssn_form hF3.now
          have hq4 := hq3.trans hs4
          have cS := hs4.cell cS
          have hS := hS.nw hs4
          have hG := hG.nw hs4
          refine hK.out _ _ ?_ (fun hHeld => ?_)
          · exact ⟨HY.nw hq4, cS⟩
          clear hK K
          try simp only [Act.put, List.setIfInBounds_toArray, List.set_cons_zero, List.set_cons_succ]
          refine' tkZ 8 [13] (oi := ?o108) (v := ?v108) ?h108 (by kernel_rfl) ?q108 (Or.inl ⟨?w108, ?y108⟩) hHeld ?r108
          case h108 => rfl
          case q108 => exact fun _ _ _ h => h
          case w108 => rfl
          case y108 => (intro w hSw; go_simp; first | done | (with_reducible rfl))
          try simp only [Act.put, List.setIfInBounds_toArray, List.set_cons_zero, List.set_cons_succ]
          refine' tkZ 9 [13] (oi := ?o109) (v := ?v109) ?h109 (by kernel_rfl) ?q109 (Or.inl ⟨?w109, ?y109⟩) hHeld ?r109
          case h109 => rfl
          case q109 => exact fun _ _ _ h => h
          case w109 => rfl
          case y109 => (intro w hSw; go_simp; first | done | (with_reducible rfl))
          try simp only [Act.put, List.setIfInBounds_toArray, List.set_cons_zero, List.set_cons_succ]
          refine' tkZ 10 [13] (oi := ?o110) (v := ?v110) ?h110 (by kernel_rfl) ?q110 (Or.inl ⟨?w110, ?y110⟩) hHeld ?r110
          case h110 => rfl
          case q110 => exact fun _ _ _ h => h
          case w110 => rfl
          case y110 => (intro w hSw; go_simp; first | done | (with_reducible rfl))
          try simp only [Act.put, List.setIfInBounds_toArray, List.set_cons_zero, List.set_cons_succ]
          have hR3 := rowIs_blk (n := 19) hG rfl
          refine' stZ1 12 (by kernel_rfl) rfl (by decide) (fun K hK => ?_)
          go_simp
          refine hK.out _ _ ?_ (fun hHeld => ?_)
          · exact um_keep hwg HY hq4 hG hS HEE.out _
          clear hK K
          try simp only [Act.put, List.setIfInBounds_toArray, List.set_cons_zero, List.set_cons_succ]
          refine' stZ_last (by kernel_rfl) rfl (by kernel_rfl) (fun K hK => ?_)
          go_simp
          refine hK.out _ _ ?_
          clear hK K
          go_wp2
          go_meet
          case rel =>
            obtain ⟨r1, r2, r3⟩ := um_end (l2 := [.int .i64 x.ver, .string x.org.user, .int .u64 x.org.id, .int .u64 x.org.ver, .string x.org.net, .string x.org.addr, .string x.org.adr, .string x.name, .slice C0 x.info.length c0, .slice C1 x.uri.length c1, .slice C2 x.email.length c2, .slice C3 x.phone.length c3, .slice C4 x.conn.length c4, .slice C5 x.bws.length c5, .slice C6 x.times.length c6, .slice C7 x.zones.length c7, .slice C8 x.key.length c8, .slice C9 x.atts.length c9, .slice C10 x.media.length c10]) hq4 hG (Nw.refl _) hF3 (.inl hgn) hwg
            exact ⟨g, _, _, _, _, _, _, _, _, _, _, _, rfl, rfl, r1, r2, r3⟩
        go_simp
        obtain ⟨g, z3, hG, hs3, hge, e1, e2⟩ := new_blk z2 zs33 33
        rw [← e1, ← e2]
        clear e1 e2
        have hq3 := hq2.trans hs3
        have cS := hs3.cell cS
        have hS := hS.nw hs3
        have hr1 := hr1.nw hs3
        have hwg := Nat.le_trans hq2.size hge
        refine hK.out _ _ ?_ (fun hHeld => ?_)
        · exact ⟨HY.nw hq3, cS⟩
        clear hK K
        try simp only [Act.put, List.setIfInBounds_toArray, List.set_cons_zero, List.set_cons_succ]
        refine' stZ1 6 (by kernel_rfl) rfl (by decide) (fun K hK => ?_)
        (go_simp; go_at_call 14; (with_reducible refine (HX14.out _ _ _ hr1).mono ?_); rintro e z4 ⟨rfl, hzz⟩; have hzz := hzz.symm; subst hzz)
        refine hK.out _ _ ?_ (fun hHeld => ?_)
        · exact ⟨HY.nw hq3, cS⟩
        clear hK K
        try simp only [Act.put, List.setIfInBounds_toArray, List.set_cons_zero, List.set_cons_succ]
        refine' stZ1 7 (by kernel_rfl) rfl (by decide) (fun K hK => ?_)
        have hlc := hq3.size
        have hgn := Blk.lt hG
        (go_simp; go_at_call 13; (with_reducible refine (HX13.out _ hq3).mono ?_); rintro e z4 ⟨u0, u1, u2, u3, u4, u5, u6, u7, u8, u9, u10, rfl, hF3, hs4⟩)
        obtain ⟨C0, C1, C2, C3, C4, C5, C6, C7, C8, C9, C10, c0, c1, c2, c3, c4, c5, c6, c7, c8, c9, c10, rfl, rfl, rfl, rfl, rfl, rfl, rfl, rfl, rfl, rfl, rfl⟩ := ssn_form hF3.now
        have hq4 := hq3.trans hs4
        have cS := hs4.cell cS
        have hS := hS.nw hs4
        have hG := hG.nw hs4
        refine hK.out _ _ ?_ (fun hHeld => ?_)
        · exact ⟨HY.nw hq4, cS⟩
        clear hK K
        try simp only [Act.put, List.setIfInBounds_toArray, List.set_cons_zero, List.set_cons_succ]
        refine' tkZ 8 [13] (oi := ?o111) (v := ?v111) ?h111 (by kernel_rfl) ?q111 (Or.inl ⟨?w111, ?y111⟩) hHeld ?r111
        case h111 => rfl
        case q111 => exact fun _ _ _ h => h
        case w111 => rfl
        case y111 => (intro w hSw; go_simp; first | done | (with_reducible rfl))
        try simp only [Act.put, List.setIfInBounds_toArray, List.set_cons_zero, List.set_cons_succ]
        refine' tkZ 9 [13] (oi := ?o112) (v := ?v112) ?h112 (by kernel_rfl) ?q112 (Or.inl ⟨?w112, ?y112⟩) hHeld ?r112
        case h112 => rfl
        case q112 => exact fun _ _ _ h => h
        case w112 => rfl
        case y112 => (intro w hSw; go_simp; first | done | (with_reducible rfl))
        try simp only [Act.put, List.setIfInBounds_toArray, List.set_cons_zero, List.set_cons_succ]
        refine' tkZ 10 [13] (oi := ?o113) (v := ?v113) ?h113 (by kernel_rfl) ?q113 (Or.inl ⟨?w113, ?y113⟩) hHeld ?r113
        case h113 => rfl
        case q113 => exact fun _ _ _ h => h
        case w113 => rfl
        case y113 => (intro w hSw; go_simp; first | done | (with_reducible rfl))
        try simp only [Act.put, List.setIfInBounds_toArray, List.set_cons_zero, List.set_cons_succ]
        have hR3 := rowIs_blk (n := 19) hG rfl
        refine' stZ1 12 (by kernel_rfl) rfl (by decide) (fun K hK => ?_)
        go_simp
        refine hK.out _ _ ?_ (fun hHeld => ?_)
        · exact um_keep hwg HY hq4 hG hS HEE.out _
        clear hK K
        try simp only [Act.put, List.setIfInBounds_toArray, List.set_cons_zero, List.set_cons_succ]
        refine' stZ_last (by kernel_rfl) rfl (by kernel_rfl) (fun K hK => ?_)
        go_simp
        refine hK.out _ _ ?_
        clear hK K
        go_wp2
        go_meet
        case rel =>
          obtain ⟨r1, r2, r3⟩ := um_end (l2 := [.int .i64 x.ver, .string x.org.user, .int .u64 x.org.id, .int .u64 x.org.ver, .string x.org.net, .string x.org.addr, .string x.org.adr, .string x.name, .slice C0 x.info.length c0, .slice C1 x.uri.length c1, .slice C2 x.email.length c2, .slice C3 x.phone.length c3, .slice C4 x.conn.length c4, .slice C5 x.bws.length c5, .slice C6 x.times.length c6, .slice C7 x.zones.length c7, .slice C8 x.key.length c8, .slice C9 x.atts.length c9, .slice C10 x.media.length c10]) hq4 hG (Nw.refl _) hF3 (.inl hgn) hwg
          exact ⟨g, _, _, _, _, _, _, _, _, _, _, _, rfl, rfl, r1, r2, r3⟩
      go_simp
      obtain ⟨g, z2, hG, hs2, hge, e1, e2⟩ := new_blk z1 zs33 33
      rw [← e1, ← e2]
      clear e1 e2
      have hq2 := hq1.trans hs2
      have hr1 := hr1.nw hs2
      have hwg := Nat.le_trans hq1.size hge
      refine hK.out _ _ ?_ (fun hHeld => ?_)
      · exact HY.nw hq2
      clear hK K
      try simp only [Act.put, List.setIfInBounds_toArray, List.set_cons_zero, List.set_cons_succ]
      refine' stZ1 2 (by kernel_rfl) rfl (by decide) (fun K hK => ?_)
      go_simp
      obtain ⟨gS, z3, hS, hs3, hge, e1, e2⟩ := new_blk z2 [.string ⟨#[13, 10]⟩, .string ⟨#[10]⟩] 9
      rw [← e1, ← e2]
      clear e1 e2
      have hq3 := hq2.trans hs3
      have hG := hG.nw hs3
      have hr1 := hr1.nw hs3
      have cS := hS.cell i HEE.out
      refine hK.out _ _ ?_ (fun hHeld => ?_)
      · exact HY.nw hq3
      clear hK K
      try simp only [Act.put, List.setIfInBounds_toArray, List.set_cons_zero, List.set_cons_succ]
      refine wpAnyZ_str (S' := fun w' => Blk w' sx [.int .i64 x.ver, .string x.org.user, .int .u64 x.org.id, .int .u64 x.org.ver, .string x.org.net, .string x.org.addr, .string x.org.adr, .string x.name, .slice B0 x.info.length b0, .slice B1 x.uri.length b1, .slice B2 x.email.length b2, .slice B3 x.phone.length b3, .slice B4 x.conn.length b4, .slice B5 x.bws.length b5, .slice B6 x.times.length b6, .slice B7 x.zones.length b7, .slice B8 x.key.length b8, .slice B9 x.atts.length b9, .slice B10 x.media.length b10] 43 ∧ w'.cell? ⟨gS, i, none⟩ = some (.string ed)) (fun _ h => h.1) ?_
      replace hHeld := And.intro hHeld cS
      refine' tkZ 4 [13] (oi := ?o114) (v := ?v114) ?h114 (by kernel_rfl) ?q114 (Or.inl ⟨?w114, ?y114⟩) hHeld ?r114
      case h114 => rfl
      case q114 => exact fun _ _ _ h => h
      case w114 => rfl
      case y114 => (intro w hSw; go_simp; first | done | (with_reducible rfl))
      try simp only [Act.put, List.setIfInBounds_toArray, List.set_cons_zero, List.set_cons_succ]
      refine' tkZ 5 [13] (oi := ?o115) (v := ?v115) ?h115 (by kernel_rfl) ?q115 (Or.inl ⟨?w115, ?y115⟩) hHeld ?r115
      case h115 => rfl
      case q115 => exact fun _ _ _ h => h
      case w115 => rfl
      case y115 => (intro w hSw; obtain ⟨_, hSw⟩ := hSw; go_simp; first | done | (with_reducible rfl))
      try simp only [Act.put, List.setIfInBounds_toArray, List.set_cons_zero, List.set_cons_succ]
      refine' stZ1 6 (by kernel_rfl) rfl (by decide) (fun K hK => ?_)
      (go_simp; go_at_call 14; (with_reducible refine (HX14.out _ _ _ hr1).mono ?_); rintro e z4 ⟨rfl, hzz⟩; have hzz := hzz.symm; subst hzz)
      refine hK.out _ _ ?_ (fun hHeld => ?_)
      · exact ⟨HY.nw hq3, cS⟩
      clear hK K
      try simp only [Act.put, List.setIfInBounds_toArray, List.set_cons_zero, List.set_cons_succ]
      refine' stZ1 7 (by kernel_rfl) rfl (by decide) (fun K hK => ?_)
      have hlc := hq3.size
      have hgn := Blk.lt hG
      (go_simp; go_at_call 13; (with_reducible refine (HX13.out _ hq3).mono ?_); rintro e z4 ⟨u0, u1, u2, u3, u4, u5, u6, u7, u8, u9, u10, rfl, hF3, hs4⟩)
      obtain ⟨C0, C1, C2, C3, C4, C5, C6, C7, C8, C9, C10, c0, c1, c2, c3, c4, c5, c6, c7, c8, c9, c10, rfl, rfl, rfl, rfl, rfl, rfl, rfl, rfl, rfl, rfl, rfl⟩ := ssn_form hF3.now
      have hq4 := hq3.trans hs4
      have cS := hs4.cell cS
      have hS := hS.nw hs4
      have hG := hG.nw hs4
      refine hK.out _ _ ?_ (fun hHeld => ?_)
      · exact ⟨HY.nw hq4, cS⟩
      clear hK K
      try simp only [Act.put, List.setIfInBounds_toArray, List.set_cons_zero, List.set_cons_succ]
      refine' tkZ 8 [13] (oi := ?o116) (v := ?v116) ?h116 (by kernel_rfl) ?q116 (Or.inl ⟨?w116, ?y116⟩) hHeld ?r116
      case h116 => rfl
      case q116 => exact fun _ _ _ h => h
      case w116 => rfl
      case y116 => (intro w hSw; go_simp; first | done | (with_reducible rfl))
      try simp only [Act.put, List.setIfInBounds_toArray, List.set_cons_zero, List.set_cons_succ]
      refine' tkZ 9 [13] (oi := ?o117) (v := ?v117) ?h117 (by kernel_rfl) ?q117 (Or.inl ⟨?w117, ?y117⟩) hHeld ?r117
      case h117 => rfl
      case q117 => exact fun _ _ _ h => h
      case w117 => rfl
      case y117 => (intro w hSw; go_simp; first | done | (with_reducible rfl))
      try simp only [Act.put, List.setIfInBounds_toArray, List.set_cons_zero, List.set_cons_succ]
      refine' tkZ 10 [13] (oi := ?o118) (v := ?v118) ?h118 (by kernel_rfl) ?q118 (Or.inl ⟨?w118, ?y118⟩) hHeld ?r118
      case h118 => rfl
      case q118 => exact fun _ _ _ h => h
      case w118 => rfl
      case y118 => (intro w hSw; go_simp; first | done | (with_reducible rfl))
      try simp only [Act.put, List.setIfInBounds_toArray, List.set_cons_zero, List.set_cons_succ]
      have hR3 := rowIs_blk (n := 19) hG rfl
      refine' stZ1 12 (by kernel_rfl) rfl (by decide) (fun K hK => ?_)
      go_simp
      refine hK.out _ _ ?_ (fun hHeld => ?_)
      · exact um_keep hwg HY hq4 hG hS HEE.out _
      clear hK K
      try simp only [Act.put, List.setIfInBounds_toArray, List.set_cons_zero, List.set_cons_succ]
      refine' stZ_last (by kernel_rfl) rfl (by kernel_rfl) (fun K hK => ?_)
      go_simp
      refine hK.out _ _ ?_
      clear hK K
      go_wp2
      go_meet
      case rel =>
        obtain ⟨r1, r2, r3⟩ := um_end (l2 := [.int .i64 x.ver, .string x.org.user, .int .u64 x.org.id, .int .u64 x.org.ver, .string x.org.net, .string x.org.addr, .string x.org.adr, .string x.name, .slice C0 x.info.length c0, .slice C1 x.uri.length c1, .slice C2 x.email.length c2, .slice C3 x.phone.length c3, .slice C4 x.conn.length c4, .slice C5 x.bws.length c5, .slice C6 x.times.length c6, .slice C7 x.zones.length c7, .slice C8 x.key.length c8, .slice C9 x.atts.length c9, .slice C10 x.media.length c10]) hq4 hG (Nw.refl _) hF3 (.inl hgn) hwg
        exact ⟨g, _, _, _, _, _, _, _, _, _, _, _, rfl, rfl, r1, r2, r3⟩
    · go_simp
      obtain ⟨gS, z1, hS, hs1, hge, e1, e2⟩ := new_blk z0 [.string ⟨#[13, 10]⟩, .string ⟨#[10]⟩] 9
      rw [← e1, ← e2]
      clear e1 e2
      have hq1 := hq0.trans hs1
      have cS := hS.cell i HEE.out
      refine hK.out _ _ ?_ (fun hHeld => ?_)
      · exact HY.nw hq1
      clear hK K
      try simp only [Act.put, List.setIfInBounds_toArray, List.set_cons_zero, List.set_cons_succ]
      refine wpAnyZ_str (S' := fun w' => Blk w' sx [.int .i64 x.ver, .string x.org.user, .int .u64 x.org.id, .int .u64 x.org.ver, .string x.org.net, .string x.org.addr, .string x.org.adr, .string x.name, .slice B0 x.info.length b0, .slice B1 x.uri.length b1, .slice B2 x.email.length b2, .slice B3 x.phone.length b3, .slice B4 x.conn.length b4, .slice B5 x.bws.length b5, .slice B6 x.times.length b6, .slice B7 x.zones.length b7, .slice B8 x.key.length b8, .slice B9 x.atts.length b9, .slice B10 x.media.length b10] 43 ∧ w'.cell? ⟨gS, i, none⟩ = some (.string ed)) (fun _ h => h.1) ?_
      replace hHeld := And.intro hHeld cS
      refine' tkZ 4 [13] (oi := ?o119) (v := ?v119) ?h119 (by kernel_rfl) ?q119 (Or.inl ⟨?w119, ?y119⟩) hHeld ?r119
      case h119 => rfl
      case q119 => exact fun _ _ _ h => h
      case w119 => rfl
      case y119 => (intro w hSw; go_simp; first | done | (with_reducible rfl))
      try simp only [Act.put, List.setIfInBounds_toArray, List.set_cons_zero, List.set_cons_succ]
      refine' tkZ 5 [13] (oi := ?o120) (v := ?v120) ?h120 (by kernel_rfl) ?q120 (Or.inl ⟨?w120, ?y120⟩) hHeld ?r120
      case h120 => rfl
      case q120 => exact fun _ _ _ h => h
      case w120 => rfl
      case y120 => (intro w hSw; obtain ⟨_, hSw⟩ := hSw; go_simp; first | done | (with_reducible rfl))
      try simp only [Act.put, List.setIfInBounds_toArray, List.set_cons_zero, List.set_cons_succ]
      refine' stZ2 1 11 (by kernel_rfl) rfl rfl (by decide) (fun K hK => ?_) (fun K hK => ?_)
      · (go_simp; go_at_call 10; (with_reducible refine (HL.out _ hq1).mono ?_); rintro e z2 ⟨vL, rfl, hr1, hs2⟩; obtain ⟨DL, eL, rfl, _⟩ := hr1.form)
        have hq2 := hq1.trans hs2
        have cS := hs2.cell cS
        have hS := hS.nw hs2
        refine hK.out _ _ ?_ (fun hHeld => ?_)
        · exact ⟨HY.nw hq2, cS⟩
        clear hK K
        try simp only [Act.put, List.setIfInBounds_toArray, List.set_cons_zero, List.set_cons_succ]
        refine' stZ2 6 11 (by kernel_rfl) rfl rfl (by decide) (fun K hK => ?_) (fun K hK => ?_)
        · (go_simp; go_at_call 14; (with_reducible refine (HX14.out _ _ _ hr1).mono ?_); rintro e z3 ⟨rfl, hzz⟩; have hzz := hzz.symm; subst hzz)
          refine hK.out _ _ ?_ (fun hHeld => ?_)
          · exact ⟨HY.nw hq2, cS⟩
          clear hK K
          try simp only [Act.put, List.setIfInBounds_toArray, List.set_cons_zero, List.set_cons_succ]
          refine' stZ2 7 11 (by kernel_rfl) rfl rfl (by decide) (fun K hK => ?_) (fun K hK => ?_)
          · have hlc := hq2.size
            (go_simp; go_at_call 13; (with_reducible refine (HX13.out _ hq2).mono ?_); rintro e z3 ⟨u0, u1, u2, u3, u4, u5, u6, u7, u8, u9, u10, rfl, hF3, hs3⟩)
            obtain ⟨C0, C1, C2, C3, C4, C5, C6, C7, C8, C9, C10, c0, c1, c2, c3, c4, c5, c6, c7, c8, c9, c10, rfl, rfl, rfl, rfl, rfl, rfl, rfl, rfl, rfl, rfl, rfl⟩ := ssn_form hF3.now
            have hq3 := hq2.trans hs3
            have cS := hs3.cell cS
            have hS := hS.nw hs3
            refine hK.out _ _ ?_ (fun hHeld => ?_)
            · exact ⟨HY.nw hq3, cS⟩
            clear hK K
            try simp only [Act.put, List.setIfInBounds_toArray, List.set_cons_zero, List.set_cons_succ]
            refine' tkZ 8 [13] (oi := ?o121) (v := ?v121) ?h121 (by kernel_rfl) ?q121 (Or.inl ⟨?w121, ?y121⟩) hHeld ?r121
            case h121 => rfl
            case q121 => exact fun _ _ _ h => h
            case w121 => rfl
            case y121 => (intro w hSw; go_simp; first | done | (with_reducible rfl))
            try simp only [Act.put, List.setIfInBounds_toArray, List.set_cons_zero, List.set_cons_succ]
            refine' tkZ 9 [13] (oi := ?o122) (v := ?v122) ?h122 (by kernel_rfl) ?q122 (Or.inl ⟨?w122, ?y122⟩) hHeld ?r122
            case h122 => rfl
            case q122 => exact fun _ _ _ h => h
            case w122 => rfl
            case y122 => (intro w hSw; go_simp; first | done | (with_reducible rfl))
            try simp only [Act.put, List.setIfInBounds_toArray, List.set_cons_zero, List.set_cons_succ]
            refine' tkZ 10 [13] (oi := ?o123) (v := ?v123) ?h123 (by kernel_rfl) ?q123 (Or.inl ⟨?w123, ?y123⟩) hHeld ?r123
            case h123 => rfl
            case q123 => exact fun _ _ _ h => h
            case w123 => rfl
            case y123 => (intro w hSw; go_simp; first | done | (with_reducible rfl))
            try simp only [Act.put, List.setIfInBounds_toArray, List.set_cons_zero, List.set_cons_succ]
            refine' stZ1 11 (by kernel_rfl) rfl (by decide) (fun K hK => ?_)
            go_simp
            obtain ⟨g, z4, hG, hs4, hge, e1, e2⟩ := new_blk z3 zs33 33
            rw [← e1, ← e2]
            clear e1 e2
            have hq4 := hq3.trans hs4
            have cS := hs4.cell cS
            have hS := hS.nw hs4
            have hwg := Nat.le_trans hq3.size hge
            refine hK.out _ _ ?_ (fun hHeld => ?_)
            · exact ⟨HY.nw hq4, cS⟩
            clear hK K
            try simp only [Act.put, List.setIfInBounds_toArray, List.set_cons_zero, List.set_cons_succ]
            have hR3 := rowIs_blk (n := 19) hG rfl
            refine' stZ1 12 (by kernel_rfl) rfl (by decide) (fun K hK => ?_)
            go_simp
            refine hK.out _ _ ?_ (fun hHeld => ?_)
            · exact um_keep hwg HY hq4 hG hS HEE.out _
            clear hK K
            try simp only [Act.put, List.setIfInBounds_toArray, List.set_cons_zero, List.set_cons_succ]
            refine' stZ_last (by kernel_rfl) rfl (by kernel_rfl) (fun K hK => ?_)
            go_simp
            refine hK.out _ _ ?_
            clear hK K
            go_wp2
            go_meet
            case rel =>
              obtain ⟨r1, r2, r3⟩ := um_end (l2 := [.int .i64 x.ver, .string x.org.user, .int .u64 x.org.id, .int .u64 x.org.ver, .string x.org.net, .string x.org.addr, .string x.org.adr, .string x.name, .slice C0 x.info.length c0, .slice C1 x.uri.length c1, .slice C2 x.email.length c2, .slice C3 x.phone.length c3, .slice C4 x.conn.length c4, .slice C5 x.bws.length c5, .slice C6 x.times.length c6, .slice C7 x.zones.length c7, .slice C8 x.key.length c8, .slice C9 x.atts.length c9, .slice C10 x.media.length c10]) hq3 hG hs4 hF3 (.inr hge) hwg
              exact ⟨g, _, _, _, _, _, _, _, _, _, _, _, rfl, rfl, r1, r2, r3⟩
          go_simp
          obtain ⟨g, z3, hG, hs3, hge, e1, e2⟩ := new_blk z2 zs33 33
          rw [← e1, ← e2]
          clear e1 e2
          have hq3 := hq2.trans hs3
          have cS := hs3.cell cS
          have hS := hS.nw hs3
          have hwg := Nat.le_trans hq2.size hge
          refine hK.out _ _ ?_ (fun hHeld => ?_)
          · exact ⟨HY.nw hq3, cS⟩
          clear hK K
          try simp only [Act.put, List.setIfInBounds_toArray, List.set_cons_zero, List.set_cons_succ]
          refine' stZ1 7 (by kernel_rfl) rfl (by decide) (fun K hK => ?_)
          have hlc := hq3.size
          have hgn := Blk.lt hG
          (go_simp; go_at_call 13; (with_reducible refine (HX13.out _ hq3).mono ?_); rintro e z4 ⟨u0, u1, u2, u3, u4, u5, u6, u7, u8, u9, u10, rfl, hF3, hs4⟩)
          obtain ⟨C0, C1, C2, C3, C4, C5, C6, C7, C8, C9, C10, c0, c1, c2, c3, c4, c5, c6, c7, c8, c9, c10, rfl, rfl, rfl, rfl, rfl, rfl, rfl, rfl, rfl, rfl, rfl⟩ := ssn_form hF3.now
          have hq4 := hq3.trans hs4
          have cS := hs4.cell cS
          have hS := hS.nw hs4
          have hG := hG.nw hs4
          refine hK.out _ _ ?_ (fun hHeld => ?_)
          · exact ⟨HY.nw hq4, cS⟩
          clear hK K
          try simp only [Act.put, List.setIfInBounds_toArray, List.set_cons_zero, List.set_cons_succ]
          refine' tkZ 8 [13] (oi := ?o124) (v := ?v124) ?h124 (by kernel_rfl) ?q124 (Or.inl ⟨?w124, ?y124⟩) hHeld ?r124
          case h124 => rfl
          case q124 => exact fun _ _ _ h => h
          case w124 => rfl
          case y124 => (intro w hSw; go_simp; first | done | (with_reducible rfl))
          try simp only [Act.put, List.setIfInBounds_toArray, List.set_cons_zero, List.set_cons_succ]
          refine' tkZ 9 [13] (oi := ?o125) (v := ?v125) ?h125 (by kernel_rfl) ?q125 (Or.inl ⟨?w125, ?y125⟩) hHeld ?r125
          case h125 => rfl
          case q125 => exact fun _ _ _ h => h
          case w125 => rfl
          case y125 => (intro w hSw; go_simp; first | done | (with_reducible rfl))
          try simp only [Act.put, List.setIfInBounds_toArray, List.set_cons_zero, List.set_cons_succ]
          refine' tkZ 10 [13] (oi := ?o126) (v := ?v126) ?h126 (by kernel_rfl) ?q126 (Or.inl ⟨?w126, ?y126⟩) hHeld ?r126
          case h126 => rfl
          case q126 => exact fun _ _ _ h => h
          case w126 => rfl
          case y126 => (intro w hSw; go_simp; first | done | (with_reducible rfl))
          try simp only [Act.put, List.setIfInBounds_toArray, List.set_cons_zero, List.set_cons_succ]
          have hR3 := rowIs_blk (n := 19) hG rfl
          refine' stZ1 12 (by kernel_rfl) rfl (by decide) (fun K hK => ?_)
          go_simp
          refine hK.out _ _ ?_ (fun hHeld => ?_)
          · exact um_keep hwg HY hq4 hG hS HEE.out _
          clear hK K
          try simp only [Act.put, List.setIfInBounds_toArray, List.set_cons_zero, List.set_cons_succ]
          refine' stZ_last (by kernel_rfl) rfl (by kernel_rfl) (fun K hK => ?_)
          go_simp
          refine hK.out _ _ ?_
          clear hK K
          go_wp2
          go_meet
          case rel =>
            obtain ⟨r1, r2, r3⟩ := um_end (l2 := [.int .i64 x.ver, .string x.org.user, .int .u64 x.org.id, .int .u64 x.org.ver, .string x.org.net, .string x.org.addr, .string x.org.adr, .string x.name, .slice C0 x.info.length c0, .slice C1 x.uri.length c1, .slice C2 x.email.length c2, .slice C3 x.phone.length c3, .slice C4 x.conn.length c4, .slice C5 x.bws.length c5, .slice C6 x.times.length c6, .slice C7 x.zones.length c7, .slice C8 x.key.length c8, .slice C9 x.atts.length c9, .slice C10 x.media.length c10]) hq4 hG (Nw.refl _) hF3 (.inl hgn) hwg
            exact ⟨g, _, _, _, _, _, _, _, _, _, _, _, rfl, rfl, r1, r2, r3⟩
        go_simp
        obtain ⟨g, z3, hG, hs3, hge, e1, e2⟩ := new_blk z2 zs33 33
        rw [← e1, ← e2]
        clear e1 e2
        have hq3 := hq2.trans hs3
        have cS := hs3.cell cS
        have hS := hS.nw hs3
        have hr1 := hr1.nw hs3
        have hwg := Nat.le_trans hq2.size hge
        refine hK.out _ _ ?_ (fun hHeld => ?_)
        · exact ⟨HY.nw hq3, cS⟩
        clear hK K
        try simp only [Act.put, List.setIfInBounds_toArray, List.set_cons_zero, List.set_cons_succ]
        refine' stZ1 6 (by kernel_rfl) rfl (by decide) (fun K hK => ?_)
        (go_simp; go_at_call 14; (with_reducible refine (HX14.out _ _ _ hr1).mono ?_); rintro e z4 ⟨rfl, hzz⟩; have hzz := hzz.symm; subst hzz)
        refine hK.out _ _ ?_ (fun hHeld => ?_)
        · exact ⟨HY.nw hq3, cS⟩
        clear hK K
        try simp only [Act.put, List.setIfInBounds_toArray, List.set_cons_zero, List.set_cons_succ]
        refine' stZ1 7 (by kernel_rfl) rfl (by decide) (fun K hK => ?_)
        have hlc := hq3.size
        have hgn := Blk.lt hG
        (go_simp; go_at_call 13; (with_reducible refine (HX13.out _ hq3).mono ?_); rintro e z4 ⟨u0, u1, u2, u3, u4, u5, u6, u7, u8, u9, u10, rfl, hF3, hs4⟩)
        obtain ⟨C0, C1, C2, C3, C4, C5, C6, C7, C8, C9, C10, c0, c1, c2, c3, c4, c5, c6, c7, c8, c9, c10, rfl, rfl, rfl, rfl, rfl, rfl, rfl, rfl, rfl, rfl, rfl⟩ := ssn_form hF3.now
        have hq4 := hq3.trans hs4
        have cS := hs4.cell cS
        have hS := hS.nw hs4
        have hG := hG.nw hs4
        refine hK.out _ _ ?_ (fun hHeld => ?_)
        · exact ⟨HY.nw hq4, cS⟩
        clear hK K
        try simp only [Act.put, List.setIfInBounds_toArray, List.set_cons_zero, List.set_cons_succ]
        refine' tkZ 8 [13] (oi := ?o127) (v := ?v127) ?h127 (by kernel_rfl) ?q127 (Or.inl ⟨?w127, ?y127⟩) hHeld ?r127
        case h127 => rfl
        case q127 => exact fun _ _ _ h => h
        case w127 => rfl
        case y127 => (intro w hSw; go_simp; first | done | (with_reducible rfl))
        try simp only [Act.put, List.setIfInBounds_toArray, List.set_cons_zero, List.set_cons_succ]
        refine' tkZ 9 [13] (oi := ?o128) (v := ?v128) ?h128 (by kernel_rfl) ?q128 (Or.inl ⟨?w128, ?y128⟩) hHeld ?r128
        case h128 => rfl
        case q128 => exact fun _ _ _ h => h
        case w128 => rfl
        case y128 => (intro w hSw; go_simp; first | done | (with_reducible rfl))
        try simp only [Act.put, List.setIfInBounds_toArray, List.set_cons_zero, List.set_cons_succ]
        refine' tkZ 10 [13] (oi := ?o129) (v := ?v129) ?h129 (by kernel_rfl) ?q129 (Or.inl ⟨?w129, ?y129⟩) hHeld ?r129
        case h129 => rfl
        case q129 => exact fun _ _ _ h => h
        case w129 => rfl
        case y129 => (intro w hSw; go_simp; first | done | (with_reducible rfl))
        try simp only [Act.put, List.setIfInBounds_toArray, List.set_cons_zero, List.set_cons_succ]
        have hR3 := rowIs_blk (n := 19) hG rfl
        refine' stZ1 12 (by kernel_rfl) rfl (by decide) (fun K hK => ?_)
        go_simp
        refine hK.out _ _ ?_ (fun hHeld => ?_)
        · exact um_keep hwg HY hq4 hG hS HEE.out _
        clear hK K
        try simp only [Act.put, List.setIfInBounds_toArray, List.set_cons_zero, List.set_cons_succ]
        refine' stZ_last (by kernel_rfl) rfl (by kernel_rfl) (fun K hK => ?_)
        go_simp
        refine hK.out _ _ ?_
        clear hK K
        go_wp2
        go_meet
        case rel =>
          obtain ⟨r1, r2, r3⟩ := um_end (l2 := [.int .i64 x.ver, .string x.org.user, .int .u64 x.org.id, .int .u64 x.org.ver, .string x.org.net, .string x.org.addr, .string x.org.adr, .string x.name, .slice C0 x.info.length c0, .slice C1 x.uri.length c1, .slice C2 x.email.length c2, .slice C3 x.phone.length c3, .slice C4 x.conn.length c4, .slice C5 x.bws.length c5, .slice C6 x.times.length c6, .slice C7 x.zones.length c7, .slice C8 x.key.length c8, .slice C9 x.atts.length c9, .slice C10 x.media.length c10]) hq4 hG (Nw.refl _) hF3 (.inl hgn) hwg
          exact ⟨g, _, _, _, _, _, _, _, _, _, _, _, rfl, rfl, r1, r2, r3⟩
      go_simp
      obtain ⟨g, z2, hG, hs2, hge, e1, e2⟩ := new_blk z1 zs33 33
      rw [← e1, ← e2]
      clear e1 e2
      have hq2 := hq1.trans hs2
      have cS := hs2.cell cS
      have hS := hS.nw hs2
      have hwg := Nat.le_trans hq1.size hge
      refine hK.out _ _ ?_ (fun hHeld => ?_)
      · exact ⟨HY.nw hq2, cS⟩
      clear hK K
      try simp only [Act.put, List.setIfInBounds_toArray, List.set_cons_zero, List.set_cons_succ]
      refine' stZ1 1 (by kernel_rfl) rfl (by decide) (fun K hK => ?_)
      (go_simp; go_at_call 10; (with_reducible refine (HL.out _ hq2).mono ?_); rintro e z3 ⟨vL, rfl, hr1, hs3⟩; obtain ⟨DL, eL, rfl, _⟩ := hr1.form)
      have hq3 := hq2.trans hs3
      have cS := hs3.cell cS
      have hS := hS.nw hs3
      have hG := hG.nw hs3
      refine hK.out _ _ ?_ (fun hHeld => ?_)
      · exact ⟨HY.nw hq3, cS⟩
      clear hK K
      try simp only [Act.put, List.setIfInBounds_toArray, List.set_cons_zero, List.set_cons_succ]
      refine' stZ1 6 (by kernel_rfl) rfl (by decide) (fun K hK => ?_)
      (go_simp; go_at_call 14; (with_reducible refine (HX14.out _ _ _ hr1).mono ?_); rintro e z4 ⟨rfl, hzz⟩; have hzz := hzz.symm; subst hzz)
      refine hK.out _ _ ?_ (fun hHeld => ?_)
      · exact ⟨HY.nw hq3, cS⟩
      clear hK K
      try simp only [Act.put, List.setIfInBounds_toArray, List.set_cons_zero, List.set_cons_succ]
      refine' stZ1 7 (by kernel_rfl) rfl (by decide) (fun K hK => ?_)
      have hlc := hq3.size
      have hgn := Blk.lt hG
      (go_simp; go_at_call 13; (with_reducible refine (HX13.out _ hq3).mono ?_); rintro e z4 ⟨u0, u1, u2, u3, u4, u5, u6, u7, u8, u9, u10, rfl, hF3, hs4⟩)
      obtain ⟨C0, C1, C2, C3, C4, C5, C6, C7, C8, C9, C10, c0, c1, c2, c3, c4, c5, c6, c7, c8, c9, c10, rfl, rfl, rfl, rfl, rfl, rfl, rfl, rfl, rfl, rfl, rfl⟩ := ssn_form hF3.now
      have hq4 := hq3.trans hs4
      have cS := hs4.cell cS
      have hS := hS.nw hs4
      have hG := hG.nw hs4
      refine hK.out _ _ ?_ (fun hHeld => ?_)
      · exact ⟨HY.nw hq4, cS⟩
      clear hK K
      try simp only [Act.put, List.setIfInBounds_toArray, List.set_cons_zero, List.set_cons_succ]
      refine' tkZ 8 [13] (oi := ?o130) (v := ?v130) ?h130 (by kernel_rfl) ?q130 (Or.inl ⟨?w130, ?y130⟩) hHeld ?r130
      case h130 => rfl
      case q130 => exact fun _ _ _ h => h
      case w130 => rfl
      case y130 => (intro w hSw; go_simp; first | done | (with_reducible rfl))
      try simp only [Act.put, List.setIfInBounds_toArray, List.set_cons_zero, List.set_cons_succ]
      refine' tkZ 9 [13] (oi := ?o131) (v := ?v131) ?h131 (by kernel_rfl) ?q131 (Or.inl ⟨?w131, ?y131⟩) hHeld ?r131
      case h131 => rfl
      case q131 => exact fun _ _ _ h => h
      case w131 => rfl
      case y131 => (intro w hSw; go_simp; first | done | (with_reducible rfl))
      try simp only [Act.put, List.setIfInBounds_toArray, List.set_cons_zero, List.set_cons_succ]
      refine' tkZ 10 [13] (oi := ?o132) (v := ?v132) ?h132 (by kernel_rfl) ?q132 (Or.inl ⟨?w132, ?y132⟩) hHeld ?r132
      case h132 => rfl
      case q132 => exact fun _ _ _ h => h
      case w132 => rfl
      case y132 => (intro w hSw; go_simp; first | done | (with_reducible rfl))
      try simp only [Act.put, List.setIfInBounds_toArray, List.set_cons_zero, List.set_cons_succ]
      have hR3 := rowIs_blk (n := 19) hG rfl
      refine' stZ1 12 (by kernel_rfl) rfl (by decide) (fun K hK => ?_)
      go_simp
      refine hK.out _ _ ?_ (fun hHeld => ?_)
      · exact um_keep hwg HY hq4 hG hS HEE.out _
      clear hK K
      try simp only [Act.put, List.setIfInBounds_toArray, List.set_cons_zero, List.set_cons_succ]
      refine' stZ_last (by kernel_rfl) rfl (by kernel_rfl) (fun K hK => ?_)
      go_simp
      refine hK.out _ _ ?_
      clear hK K
      go_wp2
      go_meet
      case rel =>
        obtain ⟨r1, r2, r3⟩ := um_end (l2 := [.int .i64 x.ver, .string x.org.user, .int .u64 x.org.id, .int .u64 x.org.ver, .string x.org.net, .string x.org.addr, .string x.org.adr, .string x.name, .slice C0 x.info.length c0, .slice C1 x.uri.length c1, .slice C2 x.email.length c2, .slice C3 x.phone.length c3, .slice C4 x.conn.length c4, .slice C5 x.bws.length c5, .slice C6 x.times.length c6, .slice C7 x.zones.length c7, .slice C8 x.key.length c8, .slice C9 x.atts.length c9, .slice C10 x.media.length c10]) hq4 hG (Nw.refl _) hF3 (.inl hgn) hwg
        exact ⟨g, _, _, _, _, _, _, _, _, _, _, _, rfl, rfl, r1, r2, r3⟩
    go_simp
    obtain ⟨g, z1, hG, hs1, hge, e1, e2⟩ := new_blk z0 zs33 33
    rw [← e1, ← e2]
    clear e1 e2
    have hq1 := hq0.trans hs1
    have hwg := Nat.le_trans hq0.size hge
    refine hK.out _ _ ?_ (fun hHeld => ?_)
    · exact HY.nw hq1
    clear hK K
    try simp only [Act.put, List.setIfInBounds_toArray, List.set_cons_zero, List.set_cons_succ]
    refine' stZ2 1 2 (by kernel_rfl) rfl rfl (by decide) (fun K hK => ?_) (fun K hK => ?_)
    · (go_simp; go_at_call 10; (with_reducible refine (HL.out _ hq1).mono ?_); rintro e z2 ⟨vL, rfl, hr1, hs2⟩; obtain ⟨DL, eL, rfl, _⟩ := hr1.form)
      have hq2 := hq1.trans hs2
      have hG := hG.nw hs2
      refine hK.out _ _ ?_ (fun hHeld => ?_)
      · exact HY.nw hq2
      clear hK K
      try simp only [Act.put, List.setIfInBounds_toArray, List.set_cons_zero, List.set_cons_succ]
      refine' stZ1 2 (by kernel_rfl) rfl (by decide) (fun K hK => ?_)
      go_simp
      obtain ⟨gS, z3, hS, hs3, hge, e1, e2⟩ := new_blk z2 [.string ⟨#[13, 10]⟩, .string ⟨#[10]⟩] 9
      rw [← e1, ← e2]
      clear e1 e2
      have hq3 := hq2.trans hs3
      have hG := hG.nw hs3
      have hr1 := hr1.nw hs3
      have cS := hS.cell i HEE.out
      refine hK.out _ _ ?_ (fun hHeld => ?_)
      · exact HY.nw hq3
      clear hK K
      try simp only [Act.put, List.setIfInBounds_toArray, List.set_cons_zero, List.set_cons_succ]
      refine wpAnyZ_str (S' := fun w' => Blk w' sx [.int .i64 x.ver, .string x.org.user, .int .u64 x.org.id, .int .u64 x.org.ver, .string x.org.net, .string x.org.addr, .string x.org.adr, .string x.name, .slice B0 x.info.length b0, .slice B1 x.uri.length b1, .slice B2 x.email.length b2, .slice B3 x.phone.length b3, .slice B4 x.conn.length b4, .slice B5 x.bws.length b5, .slice B6 x.times.length b6, .slice B7 x.zones.length b7, .slice B8 x.key.length b8, .slice B9 x.atts.length b9, .slice B10 x.media.length b10] 43 ∧ w'.cell? ⟨gS, i, none⟩ = some (.string ed)) (fun _ h => h.1) ?_
      replace hHeld := And.intro hHeld cS
      refine' tkZ 4 [13] (oi := ?o133) (v := ?v133) ?h133 (by kernel_rfl) ?q133 (Or.inl ⟨?w133, ?y133⟩) hHeld ?r133
      case h133 => rfl
      case q133 => exact fun _ _ _ h => h
      case w133 => rfl
      case y133 => (intro w hSw; go_simp; first | done | (with_reducible rfl))
      try simp only [Act.put, List.setIfInBounds_toArray, List.set_cons_zero, List.set_cons_succ]
      refine' tkZ 5 [13] (oi := ?o134) (v := ?v134) ?h134 (by kernel_rfl) ?q134 (Or.inl ⟨?w134, ?y134⟩) hHeld ?r134
      case h134 => rfl
      case q134 => exact fun _ _ _ h => h
      case w134 => rfl
      case y134 => (intro w hSw; obtain ⟨_, hSw⟩ := hSw; go_simp; first | done | (with_reducible rfl))
      try simp only [Act.put, List.setIfInBounds_toArray, List.set_cons_zero, List.set_cons_succ]
      refine' stZ1 6 (by kernel_rfl) rfl (by decide) (fun K hK => ?_)
      (go_simp; go_at_call 14; (with_reducible refine (HX14.out _ _ _ hr1).mono ?_); rintro e z4 ⟨rfl, hzz⟩; have hzz := hzz.symm; subst hzz)
      refine hK.out _ _ ?_ (fun hHeld => ?_)
      · exact ⟨HY.nw hq3, cS⟩
      clear hK K
      try simp only [Act.put, List.setIfInBounds_toArray, List.set_cons_zero, List.set_cons_succ]
      refine' stZ1 7 (by kernel_rfl) rfl (by decide) (fun K hK => ?_)
      have hlc := hq3.size
      have hgn := Blk.lt hG
      (go_simp; go_at_call 13; (with_reducible refine (HX13.out _ hq3).mono ?_); rintro e z4 ⟨u0, u1, u2, u3, u4, u5, u6, u7, u8, u9, u10, rfl, hF3, hs4⟩)
      obtain ⟨C0, C1, C2, C3, C4, C5, C6, C7, C8, C9, C10, c0, c1, c2, c3, c4, c5, c6, c7, c8, c9, c10, rfl, rfl, rfl, rfl, rfl, rfl, rfl, rfl, rfl, rfl, rfl⟩ := ssn_form hF3.now
      have hq4 := hq3.trans hs4
      have cS := hs4.cell cS
      have hS := hS.nw hs4
      have hG := hG.nw hs4
      refine hK.out _ _ ?_ (fun hHeld => ?_)
      · exact ⟨HY.nw hq4, cS⟩
      clear hK K
      try simp only [Act.put, List.setIfInBounds_toArray, List.set_cons_zero, List.set_cons_succ]
      refine' tkZ 8 [13] (oi := ?o135) (v := ?v135) ?h135 (by kernel_rfl) ?q135 (Or.inl ⟨?w135, ?y135⟩) hHeld ?r135
      case h135 => rfl
      case q135 => exact fun _ _ _ h => h
      case w135 => rfl
      case y135 => (intro w hSw; go_simp; first | done | (with_reducible rfl))
      try simp only [Act.put, List.setIfInBounds_toArray, List.set_cons_zero, List.set_cons_succ]
      refine' tkZ 9 [13] (oi := ?o136) (v := ?v136) ?h136 (by kernel_rfl) ?q136 (Or.inl ⟨?w136, ?y136⟩) hHeld ?r136
      case h136 => rfl
      case q136 => exact fun _ _ _ h => h
      case w136 => rfl
      case y136 => (intro w hSw; go_simp; first | done | (with_reducible rfl))
      try simp only [Act.put, List.setIfInBounds_toArray, List.set_cons_zero, List.set_cons_succ]
      refine' tkZ 10 [13] (oi := ?o137) (v := ?v137) ?h137 (by kernel_rfl) ?q137 (Or.inl ⟨?w137, ?y137⟩) hHeld ?r137
      case h137 => rfl
      case q137 => exact fun _ _ _ h => h
      case w137 => rfl
      case y137 => (intro w hSw; go_simp; first | done | (with_reducible rfl))
      try simp only [Act.put, List.setIfInBounds_toArray, List.set_cons_zero, List.set_cons_succ]
      have hR3 := rowIs_blk (n := 19) hG rfl
      refine' stZ1 12 (by kernel_rfl) rfl (by decide) (fun K hK => ?_)
      go_simp
      refine hK.out _ _ ?_ (fun hHeld => ?_)
      · exact um_keep hwg HY hq4 hG hS HEE.out _
      clear hK K
      try simp only [Act.put, List.setIfInBounds_toArray, List.set_cons_zero, List.set_cons_succ]
      refine' stZ_last (by kernel_rfl) rfl (by kernel_rfl) (fun K hK => ?_)
      go_simp
      refine hK.out _ _ ?_
      clear hK K
      go_wp2
      go_meet
      case rel =>
        obtain ⟨r1, r2, r3⟩ := um_end (l2 := [.int .i64 x.ver, .string x.org.user, .int .u64 x.org.id, .int .u64 x.org.ver, .string x.org.net, .string x.org.addr, .string x.org.adr, .string x.name, .slice C0 x.info.length c0, .slice C1 x.uri.length c1, .slice C2 x.email.length c2, .slice C3 x.phone.length c3, .slice C4 x.conn.length c4, .slice C5 x.bws.length c5, .slice C6 x.times.length c6, .slice C7 x.zones.length c7, .slice C8 x.key.length c8, .slice C9 x.atts.length c9, .slice C10 x.media.length c10]) hq4 hG (Nw.refl _) hF3 (.inl hgn) hwg
        exact ⟨g, _, _, _, _, _, _, _, _, _, _, _, rfl, rfl, r1, r2, r3⟩
    go_simp
    obtain ⟨gS, z2, hS, hs2, hge, e1, e2⟩ := new_blk z1 [.string ⟨#[13, 10]⟩, .string ⟨#[10]⟩] 9
    rw [← e1, ← e2]
    clear e1 e2
    have hq2 := hq1.trans hs2
    have hG := hG.nw hs2
    have cS := hS.cell i HEE.out
    refine hK.out _ _ ?_ (fun hHeld => ?_)
    · exact HY.nw hq2
    clear hK K
    try simp only [Act.put, List.setIfInBounds_toArray, List.set_cons_zero, List.set_cons_succ]
    refine wpAnyZ_str (S' := fun w' => Blk w' sx [.int .i64 x.ver, .string x.org.user, .int .u64 x.org.id, .int .u64 x.org.ver, .string x.org.net, .string x.org.addr, .string x.org.adr, .string x.name, .slice B0 x.info.length b0, .slice B1 x.uri.length b1, .slice B2 x.email.length b2, .slice B3 x.phone.length b3, .slice B4 x.conn.length b4, .slice B5 x.bws.length b5, .slice B6 x.times.length b6, .slice B7 x.zones.length b7, .slice B8 x.key.length b8, .slice B9 x.atts.length b9, .slice B10 x.media.length b10] 43 ∧ w'.cell? ⟨gS, i, none⟩ = some (.string ed)) (fun _ h => h.1) ?_
    replace hHeld := And.intro hHeld cS
    refine' tkZ 4 [13] (oi := ?o138) (v := ?v138) ?h138 (by kernel_rfl) ?q138 (Or.inl ⟨?w138, ?y138⟩) hHeld ?r138
    case h138 => rfl
    case q138 => exact fun _ _ _ h => h
    case w138 => rfl
    case y138 => (intro w hSw; go_simp; first | done | (with_reducible rfl))
    try simp only [Act.put, List.setIfInBounds_toArray, List.set_cons_zero, List.set_cons_succ]
    refine' tkZ 5 [13] (oi := ?o139) (v := ?v139) ?h139 (by kernel_rfl) ?q139 (Or.inl ⟨?w139, ?y139⟩) hHeld ?r139
    case h139 => rfl
    case q139 => exact fun _ _ _ h => h
    case w139 => rfl
    case y139 => (intro w hSw; obtain ⟨_, hSw⟩ := hSw; go_simp; first | done | (with_reducible rfl))
    try simp only [Act.put, List.setIfInBounds_toArray, List.set_cons_zero, List.set_cons_succ]
    refine' stZ1 1 (by kernel_rfl) rfl (by decide) (fun K hK => ?_)
    (go_simp; go_at_call 10; (with_reducible refine (HL.out _ hq2).mono ?_); rintro e z3 ⟨vL, rfl, hr1, hs3⟩; obtain ⟨DL, eL, rfl, _⟩ := hr1.form)
    have hq3 := hq2.trans hs3
    have cS := hs3.cell cS
    have hS := hS.nw hs3
    have hG := hG.nw hs3
    refine hK.out _ _ ?_ (fun hHeld => ?_)
    · exact ⟨HY.nw hq3, cS⟩
    clear hK K
    try simp only [Act.put, List.setIfInBounds_toArray, List.set_cons_zero, List.set_cons_succ]
    refine' stZ1 6 (by kernel_rfl) rfl (by decide) (fun K hK => ?_)
    (go_simp; go_at_call 14; (with_reducible refine (HX14.out _ _ _ hr1).mono ?_); rintro e z4 ⟨rfl, hzz⟩; have hzz := hzz.symm; subst hzz)
    refine hK.out _ _ ?_ (fun hHeld => ?_)
    · exact ⟨HY.nw hq3, cS⟩
    clear hK K
    try simp only [Act.put, List.setIfInBounds_toArray, List.set_cons_zero, List.set_cons_succ]
    refine' stZ1 7 (by kernel_rfl) rfl (by decide) (fun K hK => ?_)
    have hlc := hq3.size
    have hgn := Blk.lt hG
    (go_simp; go_at_call 13; (with_reducible refine (HX13.out _ hq3).mono ?_); rintro e z4 ⟨u0, u1, u2, u3, u4, u5, u6, u7, u8, u9, u10, rfl, hF3, hs4⟩)
    obtain ⟨C0, C1, C2, C3, C4, C5, C6, C7, C8, C9, C10, c0, c1, c2, c3, c4, c5, c6, c7, c8, c9, c10, rfl, rfl, rfl, rfl, rfl, rfl, rfl, rfl, rfl, rfl, rfl⟩ := ssn_form hF3.now
    have hq4 := hq3.trans hs4
    have cS := hs4.cell cS
    have hS := hS.nw hs4
    have hG := hG.nw hs4
    refine hK.out _ _ ?_ (fun hHeld => ?_)
    · exact ⟨HY.nw hq4, cS⟩
    clear hK K
    try simp only [Act.put, List.setIfInBounds_toArray, List.set_cons_zero, List.set_cons_succ]
    refine' tkZ 8 [13] (oi := ?o140) (v := ?v140) ?h140 (by kernel_rfl) ?q140 (Or.inl ⟨?w140, ?y140⟩) hHeld ?r140
    case h140 => rfl
    case q140 => exact fun _ _ _ h => h
    case w140 => rfl
    case y140 => (intro w hSw; go_simp; first | done | (with_reducible rfl))
    try simp only [Act.put, List.setIfInBounds_toArray, List.set_cons_zero, List.set_cons_succ]
    refine' tkZ 9 [13] (oi := ?o141) (v := ?v141) ?h141 (by kernel_rfl) ?q141 (Or.inl ⟨?w141, ?y141⟩) hHeld ?r141
    case h141 => rfl
    case q141 => exact fun _ _ _ h => h
    case w141 => rfl
    case y141 => (intro w hSw; go_simp; first | done | (with_reducible rfl))
    try simp only [Act.put, List.setIfInBounds_toArray, List.set_cons_zero, List.set_cons_succ]
    refine' tkZ 10 [13] (oi := ?o142) (v := ?v142) ?h142 (by kernel_rfl) ?q142 (Or.inl ⟨?w142, ?y142⟩) hHeld ?r142
    case h142 => rfl
    case q142 => exact fun _ _ _ h => h
    case w142 => rfl
    case y142 => (intro w hSw; go_simp; first | done | (with_reducible rfl))
    try simp only [Act.put, List.setIfInBounds_toArray, List.set_cons_zero, List.set_cons_succ]
    have hR3 := rowIs_blk (n := 19) hG rfl
    refine' stZ1 12 (by kernel_rfl) rfl (by decide) (fun K hK => ?_)
    go_simp
    refine hK.out _ _ ?_ (fun hHeld => ?_)
    · exact um_keep hwg HY hq4 hG hS HEE.out _
    clear hK K
    try simp only [Act.put, List.setIfInBounds_toArray, List.set_cons_zero, List.set_cons_succ]
    refine' stZ_last (by kernel_rfl) rfl (by kernel_rfl) (fun K hK => ?_)
    go_simp
    refine hK.out _ _ ?_
    clear hK K
    go_wp2
    go_meet
    case rel =>
      obtain ⟨r1, r2, r3⟩ := um_end (l2 := [.int .i64 x.ver, .string x.org.user, .int .u64 x.org.id, .int .u64 x.org.ver, .string x.org.net, .string x.org.addr, .string x.org.adr, .string x.name, .slice C0 x.info.length c0, .slice C1 x.uri.length c1, .slice C2 x.email.length c2, .slice C3 x.phone.length c3, .slice C4 x.conn.length c4, .slice C5 x.bws.length c5, .slice C6 x.times.length c6, .slice C7 x.zones.length c7, .slice C8 x.key.length c8, .slice C9 x.atts.length c9, .slice C10 x.media.length c10]) hq4 hG (Nw.refl _) hF3 (.inl hgn) hwg
      exact ⟨g, _, _, _, _, _, _, _, _, _, _, _, rfl, rfl, r1, r2, r3⟩
  case rest =>
    obtain ⟨g, u0, u1, u2, u3, u4, u5, u6, u7, u8, u9, u10, rfl, rfl, hG, mg, hqc⟩ := hcut
    obtain ⟨C0, C1, C2, C3, C4, C5, C6, C7, C8, C9, C10, c0, c1, c2, c3, c4, c5, c6, c7, c8, c9, c10, rfl, rfl, rfl, rfl, rfl, rfl, rfl, rfl, rfl, rfl, rfl⟩ := ssn_form mg
    have MG := Lib.hid mg
    clear mg
    go_upto_region 7 with fail
    refine wp_region_Z 10 (fun w' => Blk w' g [.int .i64 x.ver, .string x.org.user, .int .u64 x.org.id, .int .u64 x.org.ver, .string x.org.net, .string x.org.addr, .string x.org.adr, .string x.name, .slice C0 x.info.length c0, .slice C1 x.uri.length c1, .slice C2 x.email.length c2, .slice C3 x.phone.length c3, .slice C4 x.conn.length c4, .slice C5 x.bws.length c5, .slice C6 x.times.length c6, .slice C7 x.zones.length c7, .slice C8 x.key.length c8, .slice C9 x.atts.length c9, .slice C10 x.media.length c10] 33 ∧ Blk w' sx [.int .i64 x.ver, .string x.org.user, .int .u64 x.org.id, .int .u64 x.org.ver, .string x.org.net, .string x.org.addr, .string x.org.adr, .string x.name, .slice B0 x.info.length b0, .slice B1 x.uri.length b1, .slice B2 x.email.length b2, .slice B3 x.phone.length b3, .slice B4 x.conn.length b4, .slice B5 x.bws.length b5, .slice B6 x.times.length b6, .slice B7 x.zones.length b7, .slice B8 x.key.length b8, .slice B9 x.atts.length b9, .slice B10 x.media.length b10] 43) (by kernel_rfl) ⟨hG.drew, (HY.nw hqc).drew⟩ (fun hHeld => ?_)
    obtain ⟨y0, hy0⟩ : ∃ z, z = wc.drew := ⟨_, rfl⟩
    have hy : Nw wc y0 := by rw [hy0]; exact (Nw.refl wc).drew
    rw [← hy0] at hHeld ⊢
    clear hy0
    have hx0 := hqc.trans hy
    refine' tkZ 0 [10] (oi := ?o501) (v := ?v501) ?h501 (by kernel_rfl) ?q501 (Or.inl ⟨?w501, ?y501⟩) hHeld ?r501
    case h501 => rfl
    case q501 => exact fun _ _ _ h => h
    case w501 => rfl
    case y501 => (intro w hSw; go_simp; first | done | (with_reducible rfl))
    try simp only [Act.put, List.setIfInBounds_toArray, List.set_cons_zero, List.set_cons_succ]
    refine' tkZ 1 [10] (oi := ?o502) (v := ?v502) ?h502 (by kernel_rfl) ?q502 (Or.inl ⟨?w502, ?y502⟩) hHeld ?r502
    case h502 => rfl
    case q502 => exact fun _ _ _ h => h
    case w502 => rfl
    case y502 => (intro w hSw; go_simp; first | done | (with_reducible rfl))
    try simp only [Act.put, List.setIfInBounds_toArray, List.set_cons_zero, List.set_cons_succ]
    refine' tkZ 2 [10] (oi := ?o503) (v := ?v503) ?h503 (by kernel_rfl) ?q503 (Or.inl ⟨?w503, ?y503⟩) hHeld ?r503
    case h503 => rfl
    case q503 => exact fun _ _ _ h => h
    case w503 => rfl
    case y503 => (intro w hSw; refine run_load33g hSw.1 rfl ?_; rfl; first | done | (with_reducible rfl))
    try simp only [Act.put, List.setIfInBounds_toArray, List.set_cons_zero, List.set_cons_succ]
    refine' tkZ 4 [10] (oi := ?o504) (v := ?v504) ?h504 (by kernel_rfl) ?q504 (Or.inl ⟨?w504, ?y504⟩) hHeld ?r504
    case h504 => rfl
    case q504 => exact fun _ _ _ h => h
    case w504 => rfl
    case y504 => (intro w hSw; refine run_load43g hSw.2 rfl ?_; rfl; first | done | (with_reducible rfl))
    try simp only [Act.put, List.setIfInBounds_toArray, List.set_cons_zero, List.set_cons_succ]
    refine' stZ1 3 (by kernel_rfl) rfl (by decide) (fun K hK => ?_)
    (go_simp; go_at_call 9; (with_reducible refine (HSN.out _ (.slice C0 x.info.length c0) (.slice C1 x.uri.length c1) (.slice C2 x.email.length c2) (.slice C3 x.phone.length c3) (.slice C4 x.conn.length c4) (.slice C5 x.bws.length c5) (.slice C6 x.times.length c6) (.slice C7 x.zones.length c7) (.slice C8 x.key.length c8) (.slice C9 x.atts.length c9) (.slice C10 x.media.length c10) (SsnAt.loc (Nw.block (w := wc) hy) MG.out) HSZ2.out.1 HSZ2.out.2.1 HSZ2.out.2.2.1 HSZ2.out.2.2.2).mono ?_); rintro r y1 ⟨vS, rfl, ⟨t0, t1, t2, t3, t4, t5, t6, t7, t8, t9, t10, rfl, mt⟩, hk1⟩)
    have hy1 := hy.trans hk1
    have hx1 := hqc.trans hy1
    unfold ssnVal
    obtain ⟨E0, E1, E2, E3, E4, E5, E6, E7, E8, E9, E10, e0, e1, e2, e3, e4, e5, e6, e7, e8, e9, e10, rfl, rfl, rfl, rfl, rfl, rfl, rfl, rfl, rfl, rfl, rfl⟩ := ssn_form mt
    have MT := Lib.hid mt
    clear mt
    refine hK.out _ _ ?_ (fun hHeld => ?_)
    · exact ⟨hG.nw hy1, HY.nw hx1⟩
    clear hK K
    try simp only [Act.put, List.setIfInBounds_toArray, List.set_cons_zero, List.set_cons_succ]
    refine' stZ1 5 (by kernel_rfl) rfl (by decide) (fun K hK => ?_)
    (go_simp; go_at_call 16; (with_reducible refine (HSA.out _ (.slice E0 x.info.length e0) (.slice E1 x.uri.length e1) (.slice E2 x.email.length e2) (.slice E3 x.phone.length e3) (.slice E4 x.conn.length e4) (.slice E5 x.bws.length e5) (.slice E6 x.times.length e6) (.slice E7 x.zones.length e7) (.slice E8 x.key.length e8) (.slice E9 x.atts.length e9) (.slice E10 x.media.length e10) (.slice B0 x.info.length b0) (.slice B1 x.uri.length b1) (.slice B2 x.email.length b2) (.slice B3 x.phone.length b3) (.slice B4 x.conn.length b4) (.slice B5 x.bws.length b5) (.slice B6 x.times.length b6) (.slice B7 x.zones.length b7) (.slice B8 x.key.length b8) (.slice B9 x.atts.length b9) (.slice B10 x.media.length b10) MT.out (SsnAt.loc (Nw.block hx1) MB.out) HSZ.out.1 HSZ.out.2.1 HSZ.out.2.2.1 HSZ.out.2.2.2).mono ?_); rintro r y2 ⟨rfl, hk2⟩)
    have hx2 := hx1.trans hk2
    have hy2 := hy1.trans hk2
    refine hK.out _ _ ?_ (fun hHeld => ?_)
    · exact ⟨hG.nw hy2, HY.nw hx2⟩
    clear hK K
    try simp only [Act.put, List.setIfInBounds_toArray, List.set_cons_zero, List.set_cons_succ]
    refine' tkZ 6 [10] (oi := ?o505) (v := ?v505) ?h505 (by kernel_rfl) ?q505 (Or.inl ⟨?w505, ?y505⟩) hHeld ?r505
    case h505 => rfl
    case q505 => exact fun _ _ _ h => h
    case w505 => rfl
    case y505 => (intro w hSw; go_simp; first | done | (with_reducible rfl))
    try simp only [Act.put, List.setIfInBounds_toArray, List.set_cons_zero, List.set_cons_succ]
    refine' tkZ 7 [10] (oi := ?o506) (v := ?v506) ?h506 (by kernel_rfl) ?q506 (Or.inl ⟨?w506, ?y506⟩) hHeld ?r506
    case h506 => rfl
    case q506 => exact fun _ _ _ h => h
    case w506 => rfl
    case y506 => (intro w hSw; go_simp; first | done | (with_reducible rfl))
    try simp only [Act.put, List.setIfInBounds_toArray, List.set_cons_zero, List.set_cons_succ]
    refine' stZ1 8 (by kernel_rfl) rfl (by decide) (fun K hK => ?_)
    (go_simp; go_at_call 12; (with_reducible refine (HW.out _ ((qA.trans hp3).trans hx2)).mono ?_); rintro r y3 ⟨rfl, hk3⟩)
    have hx3 := hx2.trans hk3
    have hy3 := hy2.trans hk3
    refine hK.out _ _ ?_ (fun hHeld => ?_)
    · exact ⟨hG.nw hy3, HY.nw hx3⟩
    clear hK K
    try simp only [Act.put, List.setIfInBounds_toArray, List.set_cons_zero, List.set_cons_succ]
    refine' tkZ 9 [10] (oi := ?o507) (v := ?v507) ?h507 (by kernel_rfl) ?q507 (Or.inl ⟨?w507, ?y507⟩) hHeld ?r507
    case h507 => rfl
    case q507 => exact fun _ _ _ h => h
    case w507 => rfl
    case y507 => (intro w hSw; go_simp; first | done | (with_reducible rfl))
    try simp only [Act.put, List.setIfInBounds_toArray, List.set_cons_zero, List.set_cons_succ]
    refine' stZ_last (by kernel_rfl) rfl (by kernel_rfl) (fun K hK => ?_)
    go_simp
    refine hK.out _ _ ?_
    clear hK K
    go_wp2
    go_ret
    exact ⟨rfl, (qA.trans hp3).trans hx3⟩
end Go.Proofs.YtcepdjlknalmnaaGreatDoor
