/- Walks of the statements: loads of whole sessions, orders of drawn regions one by one. Plain laws. -/
import Derived.Test.YtcepdjlknalmnaaGreatDoorSam
import Derived.Test.YtcepdjlknalmnaaGreatDoorWrk
import Derived.Test.YtcepdjlknalmnaaGreatDoorSes
import Derived.Test.YtcepdjlknalmnaaGreatDoorOwnB
import Derived.Test.YtcepdjlknalmnaaGreatDoorJln
namespace Go.Proofs.YtcepdjlknalmnaaGreatDoor
open Go.RowKit
set_option linter.unusedSimpArgs false
set_option linter.unusedVariables false
section
variable {P : Program} {ops : Array Oper} {Q : Exit → Act → World → Prop} {md : Region.Mode} {S : World → Prop} {z : Nat}
/-- S may be made stronger on the way. -/
theorem wpAnyZ_str {S' : World → Prop} (hS : ∀ w, S' w → S w) : ∀ {fuel : Nat} {listed : Array Bool} {a : Act} {w : World}, wpAnyZ P md ops Q S' z fuel listed a w → wpAnyZ P md ops Q S z fuel listed a w
  | 0, _, _, _, h => h
  | _ + 1, _, _, _, h => ⟨h.1, fun i hi => wpOp_mono (fun a' w' h' => ⟨fun hz => hS _ (h'.1 hz), wpAnyZ_str hS h'.2⟩) (h.2 i hi)⟩
theorem tkZ (i : Nat) (C : List Nat) {oi : Oper} {v : Value} {fuel : Nat} {listed : Array Bool} {a : Act} {w : World} (hi : ops.toList[i]? = some oi)
    (hb : (Region.noSelect ops && Region.free md ops listed i && (Region.ready md ops listed).contains i && chainB md ops listed i z C) = true)
    (hQ : ∀ c a w, Q (.panic c) (a.put oi.dst v) w → Q (.panic c) a w) (hy : YieldsIf P ops S oi v a) (hS : S w)
    (h : wpAnyZ P md ops Q S z fuel (listed.setIfInBounds i true) (a.put oi.dst v) w) : wpAnyZ P md ops Q S z (fuel + 1) listed a w := by
  simp only [Bool.and_eq_true] at hb
  exact wpAnyZ_takeC C (by simpa using hi) hb.1.1.1 hb.1.1.2 hb.1.2 hb.2 hQ hy hS h
/-- One step of an order. -/
def StZ (P : Program) (md : Region.Mode) (ops : Array Oper) (Q : Exit → Act → World → Prop) (S : World → Prop) (z fuel : Nat) (listed : Array Bool) (a : Act) (w : World) (i : Nat) (o : Oper) : Prop :=
  ∀ K' : Act → World → Prop, Shut (∀ a w, S w → (S w → wpAnyZ P md ops Q S z fuel (listed.setIfInBounds i true) a w) → K' a w) → if Region.wanted o (yielded ops a.tmps) = true then Oper.wp P o a w K' Q else K' (a.put o.dst undef) w
theorem stZ1 (i : Nat) {o : Oper} {fuel : Nat} {listed : Array Bool} {a : Act} {w : World} (hr : Region.ready md ops listed = [i]) (ho : ops.toList[i]? = some o) (hz : i ≠ z)
    (h : StZ P md ops Q S z fuel listed a w i o) : wpAnyZ P md ops Q S z (fuel + 1) listed a w := wpAnyZ_one hr (by simpa using ho) hz h
theorem stZ2 (i j : Nat) {o o' : Oper} {fuel : Nat} {listed : Array Bool} {a : Act} {w : World} (hr : Region.ready md ops listed = [i, j]) (ho : ops.toList[i]? = some o) (ho' : ops.toList[j]? = some o') (hz : i ≠ z ∧ j ≠ z)
    (h : StZ P md ops Q S z fuel listed a w i o) (h' : StZ P md ops Q S z fuel listed a w j o') : wpAnyZ P md ops Q S z (fuel + 1) listed a w :=
  ⟨(fun h0 => by rw [hr] at h0; cases h0), fun k hk => by
    rw [hr] at hk
    simp only [List.mem_cons, List.not_mem_nil, or_false] at hk
    rcases hk with rfl | rfl
    · exact wpOp_step (by simpa using ho) (fun K' hK => h K' (fun a w hS hW => hK a w ⟨fun _ => hS, hW hS⟩))
    · exact wpOp_step (by simpa using ho') (fun K' hK => h' K' (fun a w hS hW => hK a w ⟨fun _ => hS, hW hS⟩))⟩
theorem stZ3 (i j k0 : Nat) {o o' o2 : Oper} {fuel : Nat} {listed : Array Bool} {a : Act} {w : World} (hr : Region.ready md ops listed = [i, j, k0]) (ho : ops.toList[i]? = some o) (ho' : ops.toList[j]? = some o') (ho2 : ops.toList[k0]? = some o2) (hz : i ≠ z ∧ j ≠ z ∧ k0 ≠ z)
    (h : StZ P md ops Q S z fuel listed a w i o) (h' : StZ P md ops Q S z fuel listed a w j o') (h2 : StZ P md ops Q S z fuel listed a w k0 o2) : wpAnyZ P md ops Q S z (fuel + 1) listed a w :=
  ⟨(fun h0 => by rw [hr] at h0; cases h0), fun k hk => by
    rw [hr] at hk
    simp only [List.mem_cons, List.not_mem_nil, or_false] at hk
    rcases hk with rfl | rfl | rfl
    · exact wpOp_step (by simpa using ho) (fun K' hK => h K' (fun a w hS hW => hK a w ⟨fun _ => hS, hW hS⟩))
    · exact wpOp_step (by simpa using ho') (fun K' hK => h' K' (fun a w hS hW => hK a w ⟨fun _ => hS, hW hS⟩))
    · exact wpOp_step (by simpa using ho2) (fun K' hK => h2 K' (fun a w hS hW => hK a w ⟨fun _ => hS, hW hS⟩))⟩
theorem stZ_last {o : Oper} {fuel : Nat} {listed : Array Bool} {a : Act} {w : World} (hr : Region.ready md ops listed = [z]) (ho : ops.toList[z]? = some o) (hl : Region.ready md ops (listed.setIfInBounds z true) = [])
    (h : ∀ K' : Act → World → Prop, Shut (∀ a w, Q .normal a w → K' a w) → if Region.wanted o (yielded ops a.tmps) = true then Oper.wp P o a w K' Q else K' (a.put o.dst undef) w) :
    wpAnyZ P md ops Q S z (fuel + 1) listed a w := wpAnyZ_last hr (by simpa using ho) hl h
end
/-- The cells of a block. -/
def rowOf (w : World) (g : Nat) : Array Value := match w.heap[g]? with
  | some (.cells c _ _) => c
  | _ => #[]
theorem rowOf_blk {w : World} {g : Nat} {l : List Value} {t : TypeId} (h : Blk w g l t) : rowOf w g = l.toArray := by
  unfold Blk at h
  simp [rowOf, h]
theorem rowOf_drew (w : World) (g : Nat) : rowOf w.drew g = rowOf w g := rfl
def loadOk (w : World) (n : Nat) (t : TypeId) : Value → Bool
  | .pointer (some ⟨g, 0, none⟩) => rowIs w g n t
  | _ => false
theorem loadOk_row (w : World) (n : Nat) (t : TypeId) (g : Nat) : loadOk w n t (.pointer (some ⟨g, 0, none⟩)) = rowIs w g n t := rfl
theorem wp_load33 (d : Option Tmp) (i : Tmp) (ty : TypeId) (pos : String) (after : Array Edge) (gd : Option (Nat × Bool)) (a : Act) (w : World) (K : Act → World → Prop) (Q : Exit → Act → World → Prop)
    (h : loadOk w 19 33 (a.eval (.tmp i)) = true) :
    Oper.wp Tryz.prog ⟨d, .load 33 (.tmp i), ty, pos, after, gd⟩ a w K Q = K (a.put d (.agg (rowOf w (blockOf (a.eval (.tmp i)))))) w := by
  unfold loadOk at h
  split at h
  · rename_i g h1
    unfold rowIs at h
    split at h
    · rename_i c t' fr hg
      simp only [Bool.and_eq_true, beq_iff_eq] at h
      obtain ⟨⟨h3, rfl⟩, rfl⟩ := h
      have hi : (Tryz.prog.info? 33).map (·.size) = some c.size := by rw [h3]; kernel_rfl
      have h2 := run_loadVar_row w g 33 33 c (0, 0) _ hg Tryz.underlying33 rfl hi
      have h4 : rowOf w g = c := by simp [rowOf, hg]
      unfold Oper.wp execOp
      simp only [h1, Instr.loadAt, Instr.sureAddr, Sem.run_bind, Sem.run_pure, Result.andThen_ok, h2, blockOf_ptr, h4]
      rfl
    · cases h
  · cases h
theorem wp_load43 (d : Option Tmp) (i : Tmp) (ty : TypeId) (pos : String) (after : Array Edge) (gd : Option (Nat × Bool)) (a : Act) (w : World) (K : Act → World → Prop) (Q : Exit → Act → World → Prop)
    (h : loadOk w 19 43 (a.eval (.tmp i)) = true) :
    Oper.wp Tryz.prog ⟨d, .load 43 (.tmp i), ty, pos, after, gd⟩ a w K Q = K (a.put d (.agg (rowOf w (blockOf (a.eval (.tmp i)))))) w := by
  unfold loadOk at h
  split at h
  · rename_i g h1
    unfold rowIs at h
    split at h
    · rename_i c t' fr hg
      simp only [Bool.and_eq_true, beq_iff_eq] at h
      obtain ⟨⟨h3, rfl⟩, rfl⟩ := h
      have hi : (Tryz.prog.info? 43).map (·.size) = some c.size := by rw [h3]; kernel_rfl
      have h2 := run_loadVar_row w g 43 43 c (0, 0) _ hg Tryz.underlying43 rfl hi
      have h4 : rowOf w g = c := by simp [rowOf, hg]
      unfold Oper.wp execOp
      simp only [h1, Instr.loadAt, Instr.sureAddr, Sem.run_bind, Sem.run_pure, Result.andThen_ok, h2, blockOf_ptr, h4]
      rfl
    · cases h
  · cases h
theorem flat_le2 {α β γ : Type} {f : α → List β} {g : α → List γ} (h : ∀ x, (f x).length ≤ (g x).length) : ∀ (l : List α), (l.flatMap f).length ≤ (l.flatMap g).length
  | [] => Nat.le_refl _
  | x :: l => by
    simp only [List.flatMap_cons, List.length_append]
    have := h x
    have := flat_le2 h l
    omega
theorem cons_le (x : Ssn) : (consOf x).length ≤ (lns x).length := by
  have h := flat_le2 (f := fun m : Med => m.conn) (g := medLns) (fun m => by simp only [medLns, List.length_cons, List.length_append, List.length_map]; omega) x.media
  simp only [consOf, lns, List.length_cons, List.length_append, List.length_map]
  omega
theorem um_ends : ∀ (i : Nat), i < 2 → ∃ ed : ByteArray, isEnd (bs ed) ∧ ([.string ⟨#[13, 10]⟩, .string ⟨#[10]⟩] : List Value)[i]? = some (.string ed)
  | 0, _ => ⟨⟨#[13, 10]⟩, .inl rfl, rfl⟩
  | 1, _ => ⟨⟨#[10]⟩, .inr rfl, rfl⟩
  | _ + 2, h => absurd h (by omega)
theorem run_load33g {w : World} {g : Nat} {l : List Value} {d : Option Tmp} {i : Tmp} {ty : TypeId} {pos : String} {after : Array Edge} {gd : Option (Nat × Bool)} {a : Act} (h : Blk w g l 33) (hl : l.length = 19) (ha : a.eval (.tmp i) = .pointer (some ⟨g, 0, none⟩)) :
    (execOp a.eval ⟨d, .load 33 (.tmp i), ty, pos, after, gd⟩).run Tryz.prog w = .ok (.value (.agg l.toArray)) w := by
  have hi : (Tryz.prog.info? 33).map (·.size) = some l.toArray.size := by rw [List.size_toArray, hl]; kernel_rfl
  have h1 := run_loadVar_row w g 33 33 l.toArray (0, 0) _ h Tryz.underlying33 rfl hi
  unfold execOp
  simp only [ha, Instr.loadAt, Instr.sureAddr, Sem.run_bind, Sem.run_pure, Result.andThen_ok, h1]
theorem run_load43g {w : World} {g : Nat} {l : List Value} {d : Option Tmp} {i : Tmp} {ty : TypeId} {pos : String} {after : Array Edge} {gd : Option (Nat × Bool)} {a : Act} (h : Blk w g l 43) (hl : l.length = 19) (ha : a.eval (.tmp i) = .pointer (some ⟨g, 0, none⟩)) :
    (execOp a.eval ⟨d, .load 43 (.tmp i), ty, pos, after, gd⟩).run Tryz.prog w = .ok (.value (.agg l.toArray)) w := by
  have hi : (Tryz.prog.info? 43).map (·.size) = some l.toArray.size := by rw [List.size_toArray, hl]; kernel_rfl
  have h1 := run_loadVar_row w g 43 43 l.toArray (0, 0) _ h Tryz.underlying43 rfl hi
  unfold execOp
  simp only [ha, Instr.loadAt, Instr.sureAddr, Sem.run_bind, Sem.run_pure, Result.andThen_ok, h1]
abbrev zs33 : List Value := [.int .i64 0, .string ⟨#[]⟩, .int .u64 0, .int .u64 0, .string ⟨#[]⟩, .string ⟨#[]⟩, .string ⟨#[]⟩, .string ⟨#[]⟩, .slice none 0 0, .slice none 0 0, .slice none 0 0, .slice none 0 0, .slice none 0 0, .slice none 0 0, .slice none 0 0, .slice none 0 0, .slice none 0 0, .slice none 0 0, .slice none 0 0]
theorem new_blk (w : World) (l : List Value) (t : TypeId) : ∃ g w', Blk w' g l t ∧ Nw w w' ∧ w.heap.size ≤ g ∧ g = w.heap.size ∧ w' = w.alloc (.cells l.toArray t) :=
  ⟨_, _, Blk.made w l t, (Nw.refl w).alloc _, Nat.le_refl _, rfl, rfl⟩
theorem ssn_form {w : World} {x : Ssn} {u0 u1 u2 u3 u4 u5 u6 u7 u8 u9 u10 : Value} (m : SsnAt w x u0 u1 u2 u3 u4 u5 u6 u7 u8 u9 u10) : ∃ C0 C1 C2 C3 C4 C5 C6 C7 C8 C9 C10 c0 c1 c2 c3 c4 c5 c6 c7 c8 c9 c10, u0 = .slice C0 x.info.length c0 ∧ u1 = .slice C1 x.uri.length c1 ∧ u2 = .slice C2 x.email.length c2 ∧ u3 = .slice C3 x.phone.length c3 ∧ u4 = .slice C4 x.conn.length c4 ∧ u5 = .slice C5 x.bws.length c5 ∧ u6 = .slice C6 x.times.length c6 ∧ u7 = .slice C7 x.zones.length c7 ∧ u8 = .slice C8 x.key.length c8 ∧ u9 = .slice C9 x.atts.length c9 ∧ u10 = .slice C10 x.media.length c10 := by
  obtain ⟨C0, c0, e0⟩ := Ty.Sl_form m.info
  obtain ⟨C1, c1, e1⟩ := Ty.Sl_form m.uri
  obtain ⟨C2, c2, e2⟩ := Ty.Sl_form m.email
  obtain ⟨C3, c3, e3⟩ := Ty.Sl_form m.phone
  obtain ⟨C4, c4, e4⟩ := Ty.Sl_form m.conn
  obtain ⟨C5, c5, e5⟩ := Ty.Sl_form m.bws
  obtain ⟨C6, c6, e6⟩ := Ty.Sl_form m.times
  obtain ⟨C7, c7, e7⟩ := Ty.Sl_form m.zones
  obtain ⟨C8, c8, e8⟩ := Ty.Sl_form m.key
  obtain ⟨C9, c9, e9⟩ := Ty.Sl_form m.atts
  obtain ⟨C10, c10, e10⟩ := Ty.Sl_form m.media
  exact ⟨C0, C1, C2, C3, C4, C5, C6, C7, C8, C9, C10, c0, c1, c2, c3, c4, c5, c6, c7, c8, c9, c10, e0, e1, e2, e3, e4, e5, e6, e7, e8, e9, e10⟩
theorem um_keep {w3 z : World} {sx g gS i : Nat} {l Y lS : List Value} {v : Value} (hwg : w3.heap.size ≤ g) (HY : Blk w3 sx Y 43) (hq : Nw w3 z) (hG : Blk z g l 33) (hS : Blk z gS lS 9) (hv : lS[i]? = some v) (cs : Array Value) :
    Blk (z.setRow g cs) sx Y 43 ∧ (z.setRow g cs).cell? ⟨gS, i, none⟩ = some v := by
  have h1 := Blk.lt HY
  refine ⟨(HY.nw hq).fr (fr_setRow _ g _) (by omega), (hS.fr (fr_setRow _ g _) (fun e => ?_)).cell i hv⟩
  subst e
  unfold Blk at hG hS
  rw [hG] at hS
  cases hS
theorem um_end {w3 z3 W : World} {g n : Nat} {l l2 : List Value} {x : Ssn} {u0 u1 u2 u3 u4 u5 u6 u7 u8 u9 u10 : Value} (hq : Nw w3 z3) (hG : Blk W g l 33) (hW : Nw z3 W) (hF : Foot (fun W' => SsnAt W' x u0 u1 u2 u3 u4 u5 u6 u7 u8 u9 u10) z3 (fun k => n ≤ k)) (hg : g < n ∨ z3.heap.size ≤ g) (h3 : w3.heap.size ≤ g) :
    Blk (W.setRow g l2.toArray) g l2 33 ∧ SsnAt (W.setRow g l2.toArray) x u0 u1 u2 u3 u4 u5 u6 u7 u8 u9 u10 ∧ Nw w3 (W.setRow g l2.toArray) := by
  have h := fr_setRow W g l2.toArray
  refine ⟨blk_setRow hG, hF _ (fun k hk hlt => ?_), (hq.trans hW).setRow h3 _⟩
  rw [h.block k (Nat.lt_of_lt_of_le hlt hW.size) (by omega), hW.block k hlt]
end Go.Proofs.YtcepdjlknalmnaaGreatDoor
