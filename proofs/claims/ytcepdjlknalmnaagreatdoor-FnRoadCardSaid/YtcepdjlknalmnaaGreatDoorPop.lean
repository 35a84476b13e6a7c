/- Laws of this claim. -/
import Derived.Test.YtcepdjlknalmnaaGreatDoorStepG
import Derived.Laws.CopyOwn
import Derived.Laws.MakeOwn
set_option linter.unusedSimpArgs false
set_option linter.unusedVariables false
namespace Go.Proofs.YtcepdjlknalmnaaGreatDoor
open Tryz
open Go.RowKit
theorem qK3 {P : Program} (w : World) (dT sT ty elem : TypeId) (g n dCap : Nat) (a : Addr) (sCap sz : Nat) (cur : Array Value) (t : TypeId) (cs : List Value)
 (hu : P.underlying dT = some (.slice elem)) (hs : (P.info? elem).map (·.size) = some sz) (hg : w.heap[g]? = some (.cells cur t (0, 0))) (hn : cs.length = n * sz)
 (hsrc : ∀ j v, cs[j]? = some v -> w.cell? (a.add j) = some v) (hfit : cs.length <= cur.size) (h1 : ∀ v ∈ cs, v.oneCell' = true) :
 (Builtin.copy_ #[dT, sT] ty #[.slice (some ⟨g, 0, none⟩) n dCap, .slice (some a) n sCap]).run P w = .ok (goInt n) (w.setRow g (cs ++ cur.toList.drop cs.length).toArray) := by
 have hl := run_loadCells_list (P := P) w a cs hsrc
 have hst := run_storeCells_at P g 0 t cs 0 cur w hg (by simpa using hfit) h1
 cases hq : P.info? elem with
 | none => simp [hq] at hs
 | some i =>
  have hi : i.size = sz := by simpa [hq] using hs
  have hmin : Nat.min n n = n := Nat.min_self n
  rw [hn] at hl
  simp [Builtin.copy_, run_underlying hu, Builtin.lenOf, Builtin.firstCells, sizeOf, typeInfo, hq, hi, hmin, hl, hst]
end Go.Proofs.YtcepdjlknalmnaaGreatDoor
/- The cache's attributes are handed over. -/
namespace Go.Proofs.YtcepdjlknalmnaaGreatDoor
open Tryz
open Go.RowKit
theorem Row.cut {w : World} {B e sz b n c : Nat} {rows : List (List Value)} (h : Row w B e sz (.slice (some ⟨b, 0, none⟩) n c) rows) : Row w B e sz (.slice (some ⟨b, 0, none⟩) 0 c) [] := by
 rcases h.2.2 with ⟨h1, _⟩ | ⟨g', cap, cur, h1, hb, hh, hc, hm, hs, _⟩
 · cases h1
 simp only [Value.slice.injEq, Option.some.injEq, Addr.mk.injEq, and_true] at h1
 obtain ⟨e1, _, e2⟩ := h1
 subst e1
 subst e2
 exact ⟨by simp, by simp, .inr ⟨b, c, cur, rfl, hb, hh, Nat.zero_le _, hm, hs, by simp⟩⟩
theorem qQf : ∃ i, prog.info? 199 = some i /\ i.zero = some (.agg #[.string ⟨#[]⟩, .string ⟨#[]⟩]) /\ i.size = 2 /\ i.bytes = 32 := by
 have h := qPz
 cases hq : prog.info? 199 with
 | none => rw [hq] at h; cases h
 | some i =>
  rw [hq] at h
  simp only [Option.map_some, Option.some.injEq, Prod.mk.injEq] at h
  exact ⟨i, rfl, h.1, h.2.1, h.2.2⟩
set_option maxRecDepth 100000 in
set_option maxHeartbeats 1000000 in
theorem qK4 (B C : Nat) (vs vm : Value) (rows : List (List Value)) (w : World) (hC : Blk w C [vs, vm] 155) (hr : Row w B 199 2 vm rows) (hl : rows.length <= 1000000000) (hne : ¬ some C = vm.ownBlock) :
 Calls prog 122 #[.pointer (some ⟨C, 0, none⟩)] w fun e w' => ∃ v1 v2, e = .returned v1 /\ Blk w' C [vs, v2] 155 /\ Row w' B 199 2 v2 [] /\ v2.ownBlock = vm.ownBlock /\ Row w' w.heap.size 199 2 v1 rows /\ Fr (fun k => k = C) w w' := by
 obtain ⟨i0, hi, hz0, hz1, hz2⟩ := qQf
 cases rows with
 | nil =>
  obtain ⟨A, c, rfl, hc⟩ := hr.form
  have c1 := hC.cell 1 rfl
  go_enter func122, ntmps122
  go_wp2
  go_ret
  exact ⟨_, _, rfl, hC, hr, rfl, Row.nil _ _ _ _, Fr.refl _ _⟩
 | cons r0 rs =>
  obtain ⟨rows, hrows⟩ : ∃ rows, rows = r0 :: rs := ⟨_, rfl⟩
  have hpos : 0 < rows.length := by rw [hrows]; simp
  rw [<- hrows] at hr hl ⊢
  clear hrows
  obtain ⟨b, c, rfl⟩ := Row.form1 hr hpos
  have c1 := hC.cell 1 rfl
  have hnz : ¬ (rows.length : Int) = 0 := by omega
  go_enter func122, ntmps122
  go_upto_region 4 with (at_make; refine wpList_make_full _ rfl _ _ 112 rfl w.heap.size 199 i0 (.agg #[.string ⟨#[]⟩, .string ⟨#[]⟩]) 2 underlying112 hi hz0 hz1 .i64 .i64 _ _ rows.length rfl rfl rfl rfl (by rw [hz2]; omega) (by unfold maxLen; omega) (Nat.le_refl _) ?_; intro w1 r1 q1)
  have n1 : Nw w w1 := (Nw.refl w).grown q1 (fun k e => by cases e)
  obtain ⟨g, hg⟩ : ∃ g, g = w.heap.size := ⟨_, rfl⟩
  have hm : ∃ cur : Array Value, w1.heap[g]? = some (.cells cur 199 (0, 0)) /\ cur.size = rows.length * 2 := by
   rw [hg]
   rcases r1.2 with ⟨h1, _⟩ | ⟨g', cap, cur, h1, _, h2, _, _, h3, _⟩
   · cases h1
   simp only [Value.slice.injEq, Option.some.injEq, Addr.mk.injEq, and_true] at h1
   obtain ⟨e1, _, e2⟩ := h1
   subst e1
   exact ⟨cur, h2, by rw [h3, <- e2]⟩
  obtain ⟨cur, hcur, hcs⟩ := hm
  have hC1 : Blk w1 C [vs, .slice (some ⟨b, 0, none⟩) rows.length c] 155 := hC.nw n1
  have hr1 := hr.nw n1
  have hfl : rows.flatten.length = rows.length * 2 := qEz (fun r h => (hr1.1 r h).1)
  have hone : ∀ u ∈ rows.flatten, u.oneCell' = true := fun u hu => by
   obtain ⟨r, h1, h2⟩ := List.mem_flatten.1 hu
   exact (hr1.1 r h1).2 u h2
  have hsrc : ∀ (j : Nat) (u : Value), rows.flatten[j]? = some u -> w1.cell? ((⟨b, 0, none⟩ : Addr).add j) = some u := fun j u hu => hr1.2.cells rfl j u hu
  have hCl := hC.lt
  have hbl := (hr.base b rfl).2
  have hCg : ¬ C = g := by omega
  have hbg : ¬ b = g := by omega
  have c2 := hC1.cell 1 rfl
  have hg1 : g < w1.heap.size := by
   rcases Nat.lt_or_ge g w1.heap.size with h1 | h1
   · exact h1
   rw [Array.getElem?_eq_none h1] at hcur; cases hcur
  rw [<- hg]
  have hsz2 : (prog.info? 199).map (·.size) = some 2 := by rw [hi, Option.map_some, hz1]
  have hrun := qK3 (P := prog) w1 112 112 3 199 g rows.length rows.length ⟨b, 0, none⟩ c 2 cur 199 rows.flatten underlying112 hsz2 hcur hfl hsrc (by omega) hone
  obtain ⟨w2, hw2⟩ : ∃ w2, w2 = w1.setRow g (rows.flatten ++ cur.toList.drop rows.flatten.length).toArray := ⟨_, rfl⟩
  rw [<- hw2] at hrun
  have hC2 : Blk w2 C [vs, .slice (some ⟨b, 0, none⟩) rows.length c] 155 := by rw [hw2]; exact (setRow_other w1 g C _ hCg).trans hC1
  have hr2 : Row w2 B 199 2 (.slice (some ⟨b, 0, none⟩) rows.length c) rows := by
   rw [hw2]
   exact hr1.move (fun k hk => setRow_other w1 g k _ (by obtain rfl : b = k := Option.some.inj hk; exact hbg))
  have hdz : rows.flatten ++ cur.toList.drop rows.flatten.length = rows.flatten := by
   rw [List.drop_eq_nil_of_le (by rw [Array.length_toList]; omega), List.append_nil]
  rw [hdz] at hw2
  have hg2 : w2.heap[g]? = some (.cells rows.flatten.toArray 199 (0, 0)) := by rw [hw2]; exact setRow_heap w1 g cur _ 199 (0, 0) hcur
  have hN2 : Row w2 w.heap.size 199 2 (.slice (some ⟨g, 0, none⟩) rows.length rows.length) rows :=
   ⟨hr1.1, hfl, .inr ⟨g, rows.length, rows.flatten.toArray, rfl, Nat.le_of_eq hg.symm, hg2, Nat.le_refl _, by unfold maxLen; omega, by simp only [List.size_toArray]; exact hfl, by simp only [List.toList_toArray]; exact List.take_of_length_le (Nat.le_of_eq hfl)⟩⟩
  have hF2 : Nw w w2 := by rw [hw2]; exact below_setRow n1 (Nat.le_of_eq hg.symm) _
  have d1 := hC2.cell 1 rfl
  have e1 := hC2.fz 1
  clear hw2 hcur hsrc hr1 hC1 hdz
  have HG := Lib.hid hg
  clear hg r1 q1
  go_wp2
  go_ret
  have hCb : ∀ k, Value.ownBlock (.slice (some ⟨b, 0, none⟩) 0 c) = some k -> ¬ k = C := fun k hk e => hne (by rw [<- e, <- hk]; rfl)
  have hgC : ∀ k, Value.ownBlock (.slice (some ⟨g, 0, none⟩) rows.length rows.length) = some k -> ¬ k = C := fun k hk e => hCg (by rw [<- e]; exact (Option.some.inj hk).symm)
  exact ⟨_, .slice (some ⟨b, 0, none⟩) 0 c, rfl, hC2.set 1 _, (Row.cut hr2).fr (Fr.self (p := ⟨C, 1, none⟩) _) (fun k hk e => hCb k hk e), rfl, hN2.fr (Fr.self (p := ⟨C, 1, none⟩) _) (fun k hk e => hgC k hk e), Fr.setCell (S := fun k => k = C) (p := ⟨C, 1, none⟩) (hF2.fr _) (.inl rfl) _⟩
set_option maxRecDepth 100000 in
set_option maxHeartbeats 1000000 in
theorem qJy (B C : Nat) (vm vs : Value) (rows : List (List Value)) (w : World) (hC : Blk w C [vm, vs] 155) (hr : Row w B 199 2 vm rows) (hl : rows.length <= 1000000000) (hne : ¬ some C = vm.ownBlock) :
 Calls prog 65 #[.pointer (some ⟨C, 0, none⟩)] w fun e w' => ∃ v1 v2, e = .returned v1 /\ Blk w' C [v2, vs] 155 /\ Row w' B 199 2 v2 [] /\ v2.ownBlock = vm.ownBlock /\ Row w' w.heap.size 199 2 v1 rows /\ Fr (fun k => k = C) w w' := by
 obtain ⟨i0, hi, hz0, hz1, hz2⟩ := qQf
 cases rows with
 | nil =>
  obtain ⟨A, c, rfl, hc⟩ := hr.form
  have c1 := hC.cell 0 rfl
  go_enter func65, ntmps65
  go_wp2
  go_ret
  exact ⟨_, _, rfl, hC, hr, rfl, Row.nil _ _ _ _, Fr.refl _ _⟩
 | cons r0 rs =>
  obtain ⟨rows, hrows⟩ : ∃ rows, rows = r0 :: rs := ⟨_, rfl⟩
  have hpos : 0 < rows.length := by rw [hrows]; simp
  rw [<- hrows] at hr hl ⊢
  clear hrows
  obtain ⟨b, c, rfl⟩ := Row.form1 hr hpos
  have c1 := hC.cell 0 rfl
  have hnz : ¬ (rows.length : Int) = 0 := by omega
  go_enter func65, ntmps65
  go_upto_region 4 with (at_make; refine wpList_make_full _ rfl _ _ 112 rfl w.heap.size 199 i0 (.agg #[.string ⟨#[]⟩, .string ⟨#[]⟩]) 2 underlying112 hi hz0 hz1 .i64 .i64 _ _ rows.length rfl rfl rfl rfl (by rw [hz2]; omega) (by unfold maxLen; omega) (Nat.le_refl _) ?_; intro w1 r1 q1)
  have n1 : Nw w w1 := (Nw.refl w).grown q1 (fun k e => by cases e)
  obtain ⟨g, hg⟩ : ∃ g, g = w.heap.size := ⟨_, rfl⟩
  have hm : ∃ cur : Array Value, w1.heap[g]? = some (.cells cur 199 (0, 0)) /\ cur.size = rows.length * 2 := by
   rw [hg]
   rcases r1.2 with ⟨h1, _⟩ | ⟨g', cap, cur, h1, _, h2, _, _, h3, _⟩
   · cases h1
   simp only [Value.slice.injEq, Option.some.injEq, Addr.mk.injEq, and_true] at h1
   obtain ⟨e1, _, e2⟩ := h1
   subst e1
   exact ⟨cur, h2, by rw [h3, <- e2]⟩
  obtain ⟨cur, hcur, hcs⟩ := hm
  have hC1 : Blk w1 C [.slice (some ⟨b, 0, none⟩) rows.length c, vs] 155 := hC.nw n1
  have hr1 := hr.nw n1
  have hfl : rows.flatten.length = rows.length * 2 := qEz (fun r h => (hr1.1 r h).1)
  have hone : ∀ u ∈ rows.flatten, u.oneCell' = true := fun u hu => by
   obtain ⟨r, h1, h2⟩ := List.mem_flatten.1 hu
   exact (hr1.1 r h1).2 u h2
  have hsrc : ∀ (j : Nat) (u : Value), rows.flatten[j]? = some u -> w1.cell? ((⟨b, 0, none⟩ : Addr).add j) = some u := fun j u hu => hr1.2.cells rfl j u hu
  have hCl := hC.lt
  have hbl := (hr.base b rfl).2
  have hCg : ¬ C = g := by omega
  have hbg : ¬ b = g := by omega
  have c2 := hC1.cell 0 rfl
  have hg1 : g < w1.heap.size := by
   rcases Nat.lt_or_ge g w1.heap.size with h1 | h1
   · exact h1
   rw [Array.getElem?_eq_none h1] at hcur; cases hcur
  rw [<- hg]
  have hsz2 : (prog.info? 199).map (·.size) = some 2 := by rw [hi, Option.map_some, hz1]
  have hrun := qK3 (P := prog) w1 112 112 3 199 g rows.length rows.length ⟨b, 0, none⟩ c 2 cur 199 rows.flatten underlying112 hsz2 hcur hfl hsrc (by omega) hone
  obtain ⟨w2, hw2⟩ : ∃ w2, w2 = w1.setRow g (rows.flatten ++ cur.toList.drop rows.flatten.length).toArray := ⟨_, rfl⟩
  rw [<- hw2] at hrun
  have hC2 : Blk w2 C [.slice (some ⟨b, 0, none⟩) rows.length c, vs] 155 := by rw [hw2]; exact (setRow_other w1 g C _ hCg).trans hC1
  have hr2 : Row w2 B 199 2 (.slice (some ⟨b, 0, none⟩) rows.length c) rows := by
   rw [hw2]
   exact hr1.move (fun k hk => setRow_other w1 g k _ (by obtain rfl : b = k := Option.some.inj hk; exact hbg))
  have hdz : rows.flatten ++ cur.toList.drop rows.flatten.length = rows.flatten := by
   rw [List.drop_eq_nil_of_le (by rw [Array.length_toList]; omega), List.append_nil]
  rw [hdz] at hw2
  have hg2 : w2.heap[g]? = some (.cells rows.flatten.toArray 199 (0, 0)) := by rw [hw2]; exact setRow_heap w1 g cur _ 199 (0, 0) hcur
  have hN2 : Row w2 w.heap.size 199 2 (.slice (some ⟨g, 0, none⟩) rows.length rows.length) rows :=
   ⟨hr1.1, hfl, .inr ⟨g, rows.length, rows.flatten.toArray, rfl, Nat.le_of_eq hg.symm, hg2, Nat.le_refl _, by unfold maxLen; omega, by simp only [List.size_toArray]; exact hfl, by simp only [List.toList_toArray]; exact List.take_of_length_le (Nat.le_of_eq hfl)⟩⟩
  have hF2 : Nw w w2 := by rw [hw2]; exact below_setRow n1 (Nat.le_of_eq hg.symm) _
  have d1 := hC2.cell 0 rfl
  have e1 := hC2.fz 0
  clear hw2 hcur hsrc hr1 hC1 hdz
  have HG := Lib.hid hg
  clear hg r1 q1
  go_wp2
  go_ret
  have hCb : ∀ k, Value.ownBlock (.slice (some ⟨b, 0, none⟩) 0 c) = some k -> ¬ k = C := fun k hk e => hne (by rw [<- e, <- hk]; rfl)
  have hgC : ∀ k, Value.ownBlock (.slice (some ⟨g, 0, none⟩) rows.length rows.length) = some k -> ¬ k = C := fun k hk e => hCg (by rw [<- e]; exact (Option.some.inj hk).symm)
  exact ⟨_, .slice (some ⟨b, 0, none⟩) 0 c, rfl, hC2.set 0 _, (Row.cut hr2).fr (Fr.self (p := ⟨C, 0, none⟩) _) (fun k hk e => hCb k hk e), rfl, hN2.fr (Fr.self (p := ⟨C, 0, none⟩) _) (fun k hk e => hgC k hk e), Fr.setCell (S := fun k => k = C) (p := ⟨C, 0, none⟩) (hF2.fr _) (.inl rfl) _⟩
end Go.Proofs.YtcepdjlknalmnaaGreatDoor
/- The last medium gets its attributes. -/
namespace Go.Proofs.YtcepdjlknalmnaaGreatDoor
open Tryz
open Go.RowKit
def Pst.pop (q : Pst) : Pst := { q with md := q.md ++ (q.mc.map (fun y => { y with atts := q.ma })).toList, mc := none, ma := [] }
theorem Pst.pop_fin (q : Pst) : q.pop.fin = q.fin := by
 cases h : q.mc <;> simp [Pst.pop, Pst.fin, h]
structure PSc (B : Nat) (w : World) (ρ : Nat -> Nat) (L D C : Nat) (s : ByteArray) (p : Nat) (q : Pst) (V : Vs) (cs : List Value) : Prop where
 rL : ρ L = 1
 rD : ρ D = 2
 rC : ρ C = 3
 rz : ρ 0 = 0
 lx : Lx w L (pD D) (pD C) s p
 dd : Blk w D cs 115
 cc : Blk w C [V.sa, V.ma] 155
 kp : Kp (fun _ => False) B w ρ q V
 wfo : qAb q.org.user /\ qAg .u64 q.org.id /\ qAg .u64 q.org.ver /\ qAb q.org.net /\ qAb q.org.addr /\ qAb q.org.adr /\ qAb q.name
theorem PS.toC {B : Nat} {w : World} {ρ : Nat -> Nat} {L D C : Nat} {s : ByteArray} {p : Nat} {q : Pst} {V : Vs} (h : PS B w ρ L D C s p q V) : PSc B w ρ L D C s p q V (qCg q V) := ⟨h.rL, h.rD, h.rC, h.rz, h.lx, h.dd, h.cc, h.kp, h.wfo⟩
theorem PSc.BD {B : Nat} {w : World} {ρ : Nat -> Nat} {L D C : Nat} {s : ByteArray} {p : Nat} {q : Pst} {V : Vs} {cs : List Value} (h : PSc B w ρ L D C s p q V cs) : B <= D := h.kp.zero D (by rw [h.rD]; decide)
theorem PSc.BC {B : Nat} {w : World} {ρ : Nat -> Nat} {L D C : Nat} {s : ByteArray} {p : Nat} {q : Pst} {V : Vs} {cs : List Value} (h : PSc B w ρ L D C s p q V cs) : B <= C := h.kp.zero C (by rw [h.rC]; decide)
theorem PSc.size0 {B : Nat} {w : World} {ρ : Nat -> Nat} {L D C : Nat} {s : ByteArray} {p : Nat} {q : Pst} {V : Vs} {cs : List Value} (h : PSc B w ρ L D C s p q V cs) : 0 < w.heap.size := Nat.lt_of_le_of_lt (Nat.zero_le _) h.lx.lt
structure PopS (B : Nat) (w : World) (ρ : Nat -> Nat) (L D C : Nat) (s : ByteArray) (p : Nat) (q : Pst) (V : Vs) (cs : List Value) : Prop where
 rL : ρ L = 1
 rD : ρ D = 2
 rC : ρ C = 3
 rz : ρ 0 = 0
 lx : Lx w L (pD D) (pD C) s p
 dd : Blk w D cs 115
 cc : Blk w C [V.sa, V.ma] 155
 kp : Kp (fun i => i = 10 ∨ i = 11 ∨ i = 12) B w ρ q V
 wfo : qAb q.org.user /\ qAg .u64 q.org.id /\ qAg .u64 q.org.ver /\ qAb q.org.net /\ qAb q.org.addr /\ qAb q.org.adr /\ qAb q.name
 med : ∃ rows, Row w B 182 1 V.m.media rows /\ (∀ k, V.m.media.ownBlock = some k -> ρ k = 10) /\ rows.length = q.md.length /\ ∀ (i : Nat) x r, q.md[i]? = some x -> rows[i]? = some r -> qAq (fun W => qEs.ptr.rel W x r) w (fun k => ρ k = 0)
set_option maxRecDepth 100000 in
set_option maxHeartbeats 1000000 in
theorem qHu (B : Nat) (w : World) (ρ : Nat -> Nat) (L D C : Nat) (s : ByteArray) (p : Nat) (q : Pst) (V : Vs) (cs : List Value) (h : PSc B w ρ L D C s p q V cs) (hcs : cs[18]? = some V.m.media) (hm0 : q.mc = none -> q.ma = []) (hma : q.ma.length <= 1000000000) (hmd : q.md.length <= 1000000000) (hmb : ∀ y, q.mc = some y -> y.bws.length <= 1000000000) :
 Calls prog 66 #[.pointer (some ⟨C, 0, none⟩), .pointer (some ⟨D, 0, none⟩)] w fun e w' => e = .returned (.tuple #[]) /\ (∃ ρ' v2, PopS B w' ρ' L D C s p q.pop { V with ma := v2 } cs) /\ Fr (fun k => ρ k = 3 ∨ ρ k = 11) w w' := by
 obtain ⟨rows, hM⟩ := h.kp.media (fun e => e) (fun e => e) (fun e => e)
 have hlen := hM.len
 cases hmc : q.mc with
 | none =>
  have hmd0 := hM.none0 hmc
  rw [hmc, hmd0] at hlen
  obtain ⟨A, c, hv, _⟩ := hM.row.form
  have hlen0 : rows.length = 0 := hlen
  rw [hlen0] at hv
  have d18 : w.cell? ⟨D, 18, none⟩ = some (.slice A 0 c) := by rw [<- hv]; exact h.dd.cell 18 hcs
  go_enter func66, ntmps66
  go_wp2
  have hrn : rows = [] := List.eq_nil_of_length_eq_zero hlen0
  subst hrn
  have hq : q.pop = { q with md := [], mc := none, ma := [] } := by simp [Pst.pop, hmc, hmd0]
  have hk := h.kp.keep (R' := fun i => i = 10 ∨ i = 11 ∨ i = 12) (Fr.refl (fun _ => False) w) (fun _ _ e => e.elim) (fun _ e => e.elim) (by decide) (fun _ _ _ => rfl) h.kp.zero
  have hma0 := hm0 hmc
  refine ⟨rfl, ?_⟩
  have hfin : PopS B w ρ L D C s p q.pop { V with ma := V.ma } cs := by
   rw [hq]
   exact ⟨h.rL, h.rD, h.rC, h.rz, h.lx, h.dd, h.cc, ⟨hk.zero, hk.info, hk.uri, hk.email, hk.phone, hk.conn, hk.key, hk.bws, hk.zones, hk.sa, fun e => by have := hk.ma e; rw [hma0] at this; exact this, hk.times, fun e => absurd (.inl rfl) e⟩, h.wfo, [], hM.row, hM.own, rfl, fun i x r hx => by simp at hx⟩
  exact ⟨_, results_none rfl _ _ _, rfl, ⟨ρ, V.ma, hfin⟩, Fr.refl _ _⟩
 | some y =>
  rw [hmc] at hlen
  obtain ⟨k1, hC⟩ := hM.last y hmc
  obtain ⟨T, c, hv⟩ := Row.form1 hM.row (by simp at hlen; omega)
  have hlen' : rows.length = q.md.length + 1 := hlen
  rw [hlen'] at hv
  have d18 : w.cell? ⟨D, 18, none⟩ = some (.slice (some ⟨T, 0, none⟩) (q.md.length + 1) c) := by rw [<- hv]; exact h.dd.cell 18 hcs
  have m0 : w.cell? ⟨T, q.md.length, none⟩ = some (.pointer (some ⟨V.m.M, 0, none⟩)) := by
   have := hM.row.cell (g := T) (k := q.md.length) (j := 0) (by rw [hv]; rfl) k1 rfl
   simpa using this
  go_enter func66, ntmps66
  go_upto_region 1 with fail
  go_quiet (fail)
  go_upto_region 2 with fail
  obtain ⟨w1, hw1⟩ : ∃ w1, w1 = w.drewN nq := ⟨_, rfl⟩
  have n1 : Nw w w1 := by rw [hw1]; exact (Nw.refl w).drewN _
  rw [<- hw1]
  clear hw1 d18 m0
  have hrow : Row w1 B 199 2 V.ma (q.ma.map qA2) := (qAo.toFlat (h.kp.ma (fun e => e)).1).1.nw n1
  have hnC : ¬ some C = V.ma.ownBlock := fun e => by have := (h.kp.ma (fun e => e)).2 C e.symm; rw [h.rC] at this; cases this
  have hnM : ¬ V.m.M = C := fun e => by have := hC.own; rw [e, h.rC] at this; cases this
  go_wp2_with (go_at_call 122; (with_reducible refine (qK4 B C V.sa V.ma (q.ma.map qA2) w1 (h.cc.nw n1) hrow (by simpa using hma) hnC).mono ?_); rintro e w2 ⟨v1, v2, rfl, hC2, hR2, ho2, hR1, hF2⟩; have hM2 := (hC.blk.nw n1).fr hF2 hnM; have c9 := hM2.cell 9 rfl; have f9 := hM2.fz 9; obtain ⟨A1, c1, rfl, _⟩ := hR1.form)
  have hMB : B <= V.m.M := h.kp.zero _ (by rw [hC.own]; decide)
  have hFw : Fr (fun k => k = C ∨ k = V.m.M) w (w2.setCell ⟨V.m.M, 9, none⟩ (.slice A1 q.ma.length c1)) :=
   Fr.setCell (S := fun k => k = C ∨ k = V.m.M) (p := ⟨V.m.M, 9, none⟩) ((n1.fr _).trans (hF2.mono (fun k _ e => .inl (.inl e)))) (.inl (.inr rfl)) _
  have hS : ∀ k, k < w.heap.size -> (k = C ∨ k = V.m.M) -> ρ k = 3 ∨ ρ k = 11 := fun k _ e => e.imp (fun e => by rw [e]; exact h.rC) (fun e => by rw [e]; exact hC.own)
  refine ⟨rfl, _, results_none rfl _ _ _, rfl, ?_, hFw.mono hS⟩
  have hBw : B <= w.heap.size := by have := h.BD; have := h.dd.lt; omega
  obtain ⟨ρ', hρ'⟩ : ∃ ρ' : Nat -> Nat, ρ' = fun k => if k < w.heap.size then (if ρ k = 11 ∨ ρ k = 12 then 0 else ρ k) else 0 := ⟨_, rfl⟩
  have ho : ∀ k, k < w.heap.size -> ¬ (ρ k = 11 ∨ ρ k = 12) -> ρ' k = ρ k := fun k hk e => by rw [hρ']; simp only [if_pos hk, if_neg e]
  have h0 : ∀ k, k < w.heap.size -> ρ k = 0 ∨ ρ k = 11 ∨ ρ k = 12 -> ρ' k = 0 := fun k hk e => by
   rw [hρ']; simp only [if_pos hk]
   split
   · rfl
   omega
  have hnew : ∀ k, w.heap.size <= k -> ρ' k = 0 := fun k hk => by rw [hρ']; simp only [if_neg (Nat.not_lt.2 hk)]
  have hz : ∀ k, ¬ ρ' k = 0 -> B <= k := fun k e => by
   rcases Nat.lt_or_ge k w.heap.size with hk | hk
   · exact h.kp.zero k (fun e0 => e (h0 k hk (.inl e0)))
   omega
  have hk := h.kp.keep (R' := fun i => i = 3 ∨ i = 10 ∨ i = 11 ∨ i = 12) (ρ' := ρ') hFw (fun k hk e => by have := hS k hk e; omega) (fun _ e => e.elim) (by decide) (fun k hk e => ho k hk (by omega)) hz
  have hSL : ¬ (L = C ∨ L = V.m.M) := fun e => by have := hS L h.lx.lt e; rw [h.rL] at this; omega
  have hSD : ¬ (D = C ∨ D = V.m.M) := fun e => by have := hS D h.dd.lt e; rw [h.rD] at this; omega
  have hM3 := hM2.set 9 (.slice A1 q.ma.length c1)
  have hC3 : Blk (w2.setCell ⟨V.m.M, 9, none⟩ (.slice A1 q.ma.length c1)) C [V.sa, v2] 155 := Blk.other hC2 (fun e => hnM e.symm) _
  have hown2 : ∀ k, v2.ownBlock = some k -> ρ k = 7 /\ k < w.heap.size := fun k hk => ⟨(h.kp.ma (fun e => e)).2 k (by rw [<- ho2, hk]), (qAo.base (h.kp.ma (fun e => e)).1 k (by rw [<- ho2, hk])).2⟩
  have hR3 := hR2.fr (Fr.self (p := ⟨V.m.M, 9, none⟩) (.slice A1 q.ma.length c1)) (fun k hk e => by
   have e' : k = V.m.M := e
   have := (hown2 k hk).1
   rw [e', hC.own] at this; cases this)
  refine ⟨ρ', v2, ?_⟩
  refine ⟨(ho L h.lx.lt (by rw [h.rL]; decide)).trans h.rL, (ho D h.dd.lt (by rw [h.rD]; decide)).trans h.rD, (ho C h.cc.lt (by rw [h.rC]; decide)).trans h.rC, (ho 0 h.size0 (by rw [h.rz]; decide)).trans h.rz,
   h.lx.fr hFw hSL, h.dd.fr hFw hSD, hC3, ?_, h.wfo, ?_⟩
  · exact ⟨hk.zero, hk.info, hk.uri, hk.email, hk.phone, hk.conn, hk.key, fun _ => hk.bws (by decide), fun _ => hk.zones (by decide), fun _ => hk.sa (by decide), fun _ => ⟨⟨[], hR3, rfl, fun i x r hx => by simp [Pst.pop] at hx⟩, fun k hk => by rw [ho k (hown2 k hk).2 (by rw [(hown2 k hk).1]; decide)]; exact (hown2 k hk).1⟩,
     fun _ _ => hk.times (by decide) (by decide), fun e => absurd (.inl rfl) e⟩
  refine ⟨rows, hM.row.fr hFw (fun k hk e => by have := hS k (hM.row.base k hk).2 e; have := hM.own k hk; omega), fun k hk => (ho k (hM.row.base k hk).2 (by rw [hM.own k hk]; decide)).trans (hM.own k hk), by simp [Pst.pop, hmc, hlen'], ?_⟩
  intro i x r hx hr
  have hxq : (q.md ++ [{ y with atts := q.ma }])[i]? = some x := by simpa [Pst.pop, hmc] using hx
  rcases Nat.lt_or_ge i q.md.length with hlt | hge
  · rw [List.getElem?_append_left hlt] at hxq
    exact (hM.done i x r hxq hr).keep0 hFw (fun k hk e => by have := hS k hk e; omega) (fun k hk e => h0 k hk (.inl e))
  have hil := (List.getElem?_eq_some_iff.1 hxq).1
  have hi : i = q.md.length := by simp at hil; omega
  subst hi
  rw [List.getElem?_append_right (Nat.le_refl _), Nat.sub_self] at hxq
  obtain rfl : { y with atts := q.ma } = x := by simpa using hxq
  rw [k1] at hr
  obtain rfl := Option.some.inj hr
  intro W hW
  have hWM := (hW V.m.M (h0 V.m.M hC.blk.lt (.inr (.inl hC.own))) hM3.lt).trans hM3
  have hWo : ∀ k, (ρ k = 0 ∨ ρ k = 12) -> k < w.heap.size -> W.heap[k]? = w.heap[k]? := fun k e hk => (hW k (h0 k hk (by omega)) (Nat.lt_of_lt_of_le hk hFw.size)).trans (hFw.block k hk (fun e' => by have := hS k hk e'; omega))
  have hMlt := hC.blk.lt
  have hws := n1.size
  have hRW : Row W w1.heap.size 199 2 (.slice A1 q.ma.length c1) (q.ma.map qA2) := by
   have h3 := hR1.fr (Fr.self (p := ⟨V.m.M, 9, none⟩) (.slice A1 q.ma.length c1)) (fun k hk e => by have e' : k = V.m.M := e; have := (hR1.base k hk).1; omega)
   exact Row.move (by simpa using h3) (fun k hk => hW k (hnew k (Nat.le_trans hws (hR1.base k (by simpa using hk)).1)) (h3.base k (by simpa using hk)).2)
  refine ⟨V.m.M, rfl, Ty.At_blk (T := qEs) ⟨_, _, _, _, _, _, _, _, rfl, ?_⟩ hWM⟩
  exact ⟨hC.name, hC.port, hC.ports W (fun k e hk => hWo k (.inl e) hk), hC.protos W (fun k e hk => hWo k (.inl e) hk), hC.fmts W (fun k e hk => hWo k (.inl e) hk), hC.title W (fun k e hk => hWo k (.inl e) hk), hC.conn W (fun k e hk => hWo k (.inl e) hk),
   (hC.bws.foot (by have := hmb y hmc; omega)) W (fun k e hk => hWo k e hk), hC.key W (fun k e hk => hWo k (.inl e) hk), Row.slFlat (enc := qA2) (hl := fun _ => rfl) hRW (show q.ma.length <= 140737488355328 by omega) (qAo.toFlat (h.kp.ma (fun e => e)).1).2⟩
end Go.Proofs.YtcepdjlknalmnaaGreatDoor
