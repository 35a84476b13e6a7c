/- The law's own connections, from data of an older world. -/
import Derived.Test.YtcepdjlknalmnaaGreatDoorOwn
namespace Go.Proofs.YtcepdjlknalmnaaGreatDoor
open Go.RowKit
set_option linter.unusedSimpArgs false
set_option linter.unusedVariables false
set_option maxRecDepth 100000 in
set_option maxHeartbeats 1000000 in
theorem law_connectionsB (xs : List Con) (v : Value) (w0 w : World) (hn0 : Nw w0 w) (h : tyCon.Sl w0 xs v) (hl : xs.length ≤ 2147483647) (hl2 : ∀ x ∈ xs, x.adrs.length ≤ 2147483647) :
 Calls Tryz.prog 28 #[v] w fun e w' => ∃ v', e = .returned v' ∧ RowT tyCon w' w.heap.size 124 v' xs (fun k => k < w0.heap.size ∨ w.heap.size ≤ k) ∧ Nw w w' := by
 obtain ⟨A, c, rfl⟩ := Ty.Sl_form h
 have HL := Lib.hid hl2
 clear hl2
 go_enter Tryz.func28, Tryz.ntmps28
 go_wp2
 go_loopw [3, 11] (fun out i wr => ∃ k : Nat, k ≤ xs.length ∧ i = .int .i64 k ∧ RowT tyCon wr w.heap.size 124 out (xs.take k) (fun k => k < w0.heap.size ∨ w.heap.size ≤ k) ∧ Nw w wr) (fun out i _ => xs.length - (intOf i).toNat)
 case atStart => exact ⟨0, Nat.zero_le _, rfl, RowT.nil _ _ _ _ _, Nw.refl _⟩
 case round =>
  obtain ⟨k, hk, rfl, hrow, hnw⟩ := hrel
  by_cases hlt : k < xs.length
  · obtain ⟨b, o, rfl, ha⟩ := Ty.Sl_at h k hlt
    obtain ⟨cs, ⟨v1, rfl, hw0, hw1, h1⟩, hx⟩ := ha k _ (List.getElem?_eq_getElem hlt)
    obtain ⟨A1, n1, rfl⟩ := Ty.Sl_form h1
    have c0 := (hn0.trans hnw).cell (hx 0 _ rfl)
    have c1 := (hn0.trans hnw).cell (hx 1 _ rfl)
    have c2 := (hn0.trans hnw).cell (hx 2 _ rfl)
    simp only [tyCon, Nat.add_zero] at c0 c1 c2
    have HT := Lib.hid (take_snoc hlt)
    have hlk : (xs.take k).length ≤ k := by simp; omega
    have hml := HL.out _ (List.getElem_mem hlt)
    clear hx ha
    obtain ⟨t, ht⟩ : ∃ t, t = xs[k] := ⟨_, rfl⟩
    rw [← ht] at c0 c1 hw0 hw1 h1 HT hml c2
    clear ht
    go_upto_region 6 with fail
    obtain ⟨wB, hwB⟩ : ∃ wB, wB = (wr.alloc (.cells #[.string t.net, .string t.addr, .slice A1 t.adrs.length n1] 135)).alloc (.cells #[.string t.net, .string t.addr, .slice none 0 0] 124) := ⟨_, rfl⟩
    obtain ⟨g, hg⟩ : ∃ g, g = wr.heap.size + 1 := ⟨_, rfl⟩
    have hqB : Nw wr wB := by rw [hwB]; exact ((Nw.refl wr).alloc _).alloc _
    have hsB : wB.heap.size = g + 1 := by rw [hwB, hg]; simp
    have b0 : wB.cell? ⟨g, 0, none⟩ = some (.string t.net) := by rw [hwB, hg]; go_simp
    have b1 : wB.cell? ⟨g, 1, none⟩ = some (.string t.addr) := by rw [hwB, hg]; go_simp
    have b2 : wB.cell? ⟨g, 2, none⟩ = some (.slice none 0 0) := by rw [hwB, hg]; go_simp
    have bf : wB.frozen? ⟨g, 2, none⟩ = false := by rw [hwB, hg]; go_simp
    have a2 : wB.cell? ⟨wr.heap.size, 2, none⟩ = some (.slice A1 t.adrs.length n1) := by rw [hwB]; go_simp
    have hown : ∀ k, u3.ownBlock = some k → w.heap.size ≤ k ∧ k < wr.heap.size := RowT.base hrow
    have hnB := hnw.trans hqB
    have hrowB := hrow.nw hqB
    have hgw : wr.heap.size < g := by omega
    rw [← hwB, ← hg]
    clear hwB hg c0 c1 c2
    have HOWN := Lib.hid hown
    clear hown
    go_wp2
    go_loopw [23] (fun i wi => ∃ j z, j ≤ t.adrs.length ∧ i = .int .i64 j ∧ RowT tyAdr wi wB.heap.size 126 z (t.adrs.take j) (fun k => k < w0.heap.size) ∧ Fr (fun k => k = g) wB wi ∧ wi.cell? ⟨g, 0, none⟩ = some (.string t.net) ∧ wi.cell? ⟨g, 1, none⟩ = some (.string t.addr) ∧ wi.cell? ⟨g, 2, none⟩ = some z ∧ wi.frozen? ⟨g, 2, none⟩ = false) (fun i _ => t.adrs.length - (intOf i).toNat)
    case atStart => exact ⟨0, _, Nat.zero_le _, rfl, RowT.nil _ _ _ _ _, Fr.refl _ _, b0, b1, b2, bf⟩
    case round =>
     obtain ⟨j, z, hj, rfl, hrz, hfz, d0, d1, d2, df⟩ := hrel
     have hqz := hqB.frIn hfz (fun i hi => by omega)
     obtain ⟨Az, nz, cz, rfl⟩ := RowT.form' hrz
     have hnz := hnw.trans hqz
     have hnz0 := hn0.trans hnz
     have hsw0 := hn0.size
     have hswr := hnw.size
     have hsqB := hqB.size
     by_cases hlt2 : j < t.adrs.length
     · obtain ⟨b9, o9, rfl, ha2⟩ := Ty.Sl_at h1 j hlt2
       obtain ⟨cs, ⟨p1, p2, rfl, hw2, t1, t2⟩, hx⟩ := ha2 j _ (List.getElem?_eq_getElem hlt2)
       have c0 := hnz0.cell (hx 0 _ rfl)
       have c1 := hnz0.cell (hx 1 _ rfl)
       have c2 := hnz0.cell (hx 2 _ rfl)
       simp only [tyAdr, Nat.add_zero] at c0 c1 c2
       have HT2 := Lib.hid (take_snoc hlt2)
       have hlk2 : (t.adrs.take j).length ≤ j := by simp; omega
       have HF : Hid (Foot (fun W => tyAdr.rel W t.adrs[j] [.string t.adrs[j].addr, p1, p2]) w0 (fun k => k < w0.heap.size)) := Lib.hid (Ty.foot_in (T := tyAdr) (x := t.adrs[j]) (cs := [.string t.adrs[j].addr, p1, p2]) ⟨p1, p2, rfl, hw2, t1, t2⟩)
       clear hx ha2
       obtain ⟨A2, n2, rfl⟩ := Ty.Sl_form t1
       obtain ⟨A3, n3, rfl⟩ := Ty.Sl_form t2
       obtain ⟨y, hy⟩ : ∃ y, y = t.adrs[j] := ⟨_, rfl⟩
       rw [← hy] at c0 c1 c2 HT2 HF t1 t2
       clear hy
       have hzo : ∀ i, (Value.slice Az nz cz).ownBlock = some i → wB.heap.size ≤ i := fun i hi => (RowT.base hrz i hi).1
       have hwz := hfz.size
       have hsw := hnw.size
       have hF2 : Foot (fun W => tyAdr.rel W y [.string y.addr, .slice A2 y.ttl.length n2, .slice A3 y.rng.length n3]) wr (fun k => k < w0.heap.size ∧ ¬ some k = (Value.slice Az nz cz).ownBlock) := by
        have := (HF.out.nw hnz0).mono (ok' := fun k => k < w0.heap.size ∧ ¬ some k = (Value.slice Az nz cz).ownBlock) (fun k _ hk => ⟨hk.2, fun e => by have := hzo k e.symm; omega⟩)
        exact this
       have hF3 : Foot (fun W => tyAdr.rel W y [.string y.addr, .slice A2 y.ttl.length n2, .slice A3 y.rng.length n3]) (wr.alloc (.cells #[.string y.addr, .slice A2 y.ttl.length n2, .slice A3 y.rng.length n3] 145)) (fun k => k < w0.heap.size ∧ ¬ some k = (Value.slice Az nz cz).ownBlock) := (hF2.nw ((Nw.refl _).alloc _)).mono (fun k _ hk => hk.1)
       have d2a := Nw.cell ((Nw.refl wr).alloc (.cells #[.string y.addr, .slice A2 y.ttl.length n2, .slice A3 y.rng.length n3] 145)) d2
       have hzg : ¬ some g = (Value.slice Az nz cz).ownBlock := fun e => by have := hzo g e.symm; omega
       go_wp2_with ((refine at_list rfl fun K hK => ?_; (with_reducible refine rowT_appendB (ops := #[]) (.tmp 28) (.tmp 36) 122 126 (.agg #[.string ⟨#[]⟩, .slice none 0 0, .slice none 0 0]) 64 ?_ Tryz.underlying122 inf126 ?_ ?_ (.slice Az nz cz) (t.adrs.take j) y [.string y.addr, .slice A2 y.ttl.length n2, .slice A3 y.rng.length n3] ?_ ?_ ?_ ?_ hF3 (hrz.nw ((Nw.refl _).alloc _)) (Nat.le_trans hwz (Nw.size ((Nw.refl _).alloc _))) ?_ ?_ ?_); (focus rfl); (focus rfl); (focus decide); (focus rfl); rotate_left 1; (focus rfl); (focus simp only [World.alloc, Array.size_push]); (focus omega); (focus omega); intro v5 w5 hr5 hf5 ho5; refine hK _ _ ?_); obtain ⟨Av, nv, cv, rfl⟩ := RowT.form' hr5; have e0 := hf5.cell hzg (Nw.cell ((Nw.refl _).alloc _) d0); have e1 := hf5.cell hzg (Nw.cell ((Nw.refl _).alloc _) d1); have e2 := hf5.cell hzg (Nw.cell ((Nw.refl _).alloc _) d2); have ef := hf5.frozen hzg d2a ((Nw.frozen ((Nw.refl _).alloc _) (World.block_lt_of_cell? _ _ d2)).trans df))
       have hX : Fr (fun k => k = g) wB w5 := (hfz.alloc _).trans (hf5.mono (fun k _ e => .inr (hzo k e.symm)))
       have hvg : ∀ k, (Value.slice Av nv cv).ownBlock = some k → ¬ k = g := fun k hk e => by
        rcases ho5 with h6 | ⟨b6, h6, h7⟩
        · have := hzo k (by rw [← h6, hk]); omega
        · rw [hk] at h6; injection h6 with h6
          simp only [World.alloc, Array.size_push] at h7
          omega
       refine ⟨⟨j + 1, .slice Av nv cv, by omega, by go_num, ?_, hX.setCell (.inl rfl) _, by go_simp, by go_simp, by go_simp, ?_⟩, by simp [intOf]; omega⟩
       · rw [HT2.out]
         exact hr5.fr ((Fr.refl (fun k => k = g) w5).setCell (.inl rfl) _) hvg (fun k _ hk e => by omega)
       · rw [World.frozen?_setCell]; exact ef
     · rw [List.take_of_length_le (by omega)] at hrz
       have hml2 : t.adrs.length ≤ 140737488355328 := by omega
       have hszz := hfz.size
       have HFz : Foot (fun W => tyCon.rel W t [.string t.net, .string t.addr, .slice Az nz cz]) wr (fun k => (k < w0.heap.size ∨ w.heap.size ≤ k) ∧ ¬ some k = u3.ownBlock) :=
        (Foot.imp (RowT.foot hrz hml2) (Q := fun W => tyCon.rel W t [.string t.net, .string t.addr, .slice Az nz cz]) (fun W' h' => ⟨_, rfl, hw0, hw1, h'⟩)).mono (fun k _ hk => ⟨by rcases hk with hk | hk <;> omega, fun e => by
         have := HOWN.out k e.symm
         rcases hk with hk | hk <;> omega⟩)
       have hrow7 := hrow.nw hqz
       clear hrow hrowB
       go_wp2_with ((refine at_list rfl fun K hK => ?_; (with_reducible refine rowT_append (ops := #[]) (.tmp 40) (.tmp 42) 36 124 (.agg #[.string ⟨#[]⟩, .string ⟨#[]⟩, .slice none 0 0]) 56 ?_ Tryz.underlying36 inf124 ?_ ?_ u3 (xs.take k) t [.string t.net, .string t.addr, .slice Az nz cz] ?_ ?_ ?_ ?_ HFz hrow7 hnz ?_ ?_ ?_); (focus rfl); (focus rfl); (focus decide); (focus rfl); rotate_left 1; (focus rfl); (focus simp only [World.alloc, Array.size_push]); (focus omega); (focus omega); intro v1 w9 hr9 hn9 hf9 ho9; refine hK _ _ ?_))
       exact ⟨⟨k + 1, by omega, by go_num, by rw [HT.out]; exact hr9, hn9⟩, by simp [intOf]; omega⟩
  · rw [List.take_of_length_le (by omega)] at hrow
    go_wp2
    go_ret
    exact ⟨_, rfl, hrow, hnw⟩
end Go.Proofs.YtcepdjlknalmnaaGreatDoor
