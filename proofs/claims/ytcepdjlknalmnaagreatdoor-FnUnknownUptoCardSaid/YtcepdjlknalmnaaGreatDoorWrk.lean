/- Unmarshal at the lines of a proper session, whole. -/
import Derived.Test.YtcepdjlknalmnaaGreatDoorUnw
import Derived.Test.YtcepdjlknalmnaaGreatDoorPlg
import Derived.Test.YtcepdjlknalmnaaGreatDoorBnd
namespace Go.Proofs.YtcepdjlknalmnaaGreatDoor
open Go.RowKit
set_option linter.unusedSimpArgs false
set_option linter.unusedVariables false

theorem plain_ok (x : Ssn) (hv : WfInt .i64 x.ver)
    (hl : x.bws.length ≤ 2147483647 ∧ x.atts.length ≤ 2147483647 ∧ x.times.length ≤ 2147483647 ∧ x.zones.length ≤ 2147483647 ∧ x.media.length ≤ 2147483647) (hlt : ∀ t ∈ x.times, t.reps.length ≤ 2147483647 ∧ ∀ r ∈ t.reps, r.offs.length ≤ 2147483647)
    (hlm : ∀ y ∈ x.media, y.protos.length ≤ 2147483647 ∧ y.fmts.length ≤ 2147483647 ∧ y.bws.length ≤ 2147483647 ∧ y.atts.length ≤ 2147483647) : PlainOk x := by
  rintro D w ⟨i, u, e, p, c, b, t, z, k, a, m, hD, hm⟩
  exact imp_plain x D w i u e p c b t z k a m hD hm hv hl hlt hlm
theorem fit_lens {x : Ssn} (hf : fitB1 x = true) : (x.bws.length ≤ 2147483647 ∧ x.atts.length ≤ 2147483647 ∧ x.times.length ≤ 2147483647 ∧ x.zones.length ≤ 2147483647 ∧ x.media.length ≤ 2147483647) ∧ (∀ t ∈ x.times, t.reps.length ≤ 2147483647 ∧ ∀ r ∈ t.reps, r.offs.length ≤ 2147483647) ∧
    (∀ y ∈ x.media, y.protos.length ≤ 2147483647 ∧ y.fmts.length ≤ 2147483647 ∧ y.bws.length ≤ 2147483647 ∧ y.atts.length ≤ 2147483647) := by
  obtain ⟨-, -, -, ⟨-, s1, s2, s3, s4, s5⟩, -, -, sm⟩ := ssn_sizes hf
  unfold fitB1 at hf
  simp only [Bool.and_eq_true] at hf
  obtain ⟨f0, f1, f2, f3, f4, f5, f6, f7, f8, f9, f10, f11, f12⟩ := hf
  refine ⟨⟨s1, s2, s3, s4, s5⟩, fun t ht => ?_, fun y hy => ?_⟩
  · unfold fitB10 fitB11 fitB12 fitB13 fLen at f8
    simp only [Bool.and_eq_true, List.all_eq_true, decide_eq_true_eq] at f8
    have h := f8.2 t ht
    exact ⟨h.1, fun r hr => h.2 r hr⟩
  · obtain ⟨h1, h2, h3, h4⟩ := sm y hy
    unfold fitB16 fLen at f12
    simp only [Bool.and_eq_true, List.all_eq_true, decide_eq_true_eq] at f12
    have h := f12.2 y hy
    unfold fitB17 at h
    simp only [Bool.and_eq_true] at h
    have g1 := h.2.2.1
    have g2 := h.2.2.2.1
    unfold fitB3 fLen at g1 g2
    simp only [Bool.and_eq_true, decide_eq_true_eq] at g1 g2
    exact ⟨g1.1, g2.1, h2, h3⟩
theorem flat_plain {x : Ssn} (hf : fitB1 x = true) : PlainOk (flatSsn x) := by
  obtain ⟨h1, h2, h3⟩ := fit_lens hf
  refine plain_ok (flatSsn x) (by show WfInt .i64 0; unfold WfInt; decide) ⟨h1.1, h1.2.1, h1.2.2.1, h1.2.2.2.1, ?_⟩ h2 (fun y hy => ?_)
  · unfold flatSsn
    rw [List.length_map]
    exact h1.2.2.2.2
  · unfold flatSsn at hy
    obtain ⟨m, hm, rfl⟩ := List.mem_map.1 hy
    exact h3 m hm
/-- Unmarshal at the lines of a proper session, joined by an end, and what may follow. -/
theorem unm_lines {x : Ssn} {w0 : World} {v0 v1 v2 v3 v4 v5 v6 v7 v8 v9 v10 : Value} (m : SsnAt w0 x v0 v1 v2 v3 v4 v5 v6 v7 v8 v9 v10) (hf : fitB1 x = true) (hp : proper x = true)
    (w : World) (e tl : List UInt8) (a : Addr) (hs : (joinEnds e (linesB x) ++ tl).length ≤ strMax) (hE : Eof w a) (he : isEnd e) (htl : TlOk tl) :
    Calls Tryz.prog 13 #[.string (mk (joinEnds e (linesB x) ++ tl))] w (UnwPost (flatSsn x) tl w) := by
  obtain ⟨b1, b2⟩ := ssn_fit m hf
  obtain ⟨h1, h2, h3, h4, h5⟩ := lns_ok hp b1
  have ht := lns_text x h5
  have hx := apps_lns x h3
  have hL : (joinEnds e (linesB x) ++ tl).length = (mk (joinEnds e (linesB x) ++ tl)).size := by rw [mk_size]
  rw [← hx]
  refine imp_unmarshal w (mk (joinEnds e (linesB x) ++ tl)) e tl (lns x) a ?_ hE he htl ?_ ?_ (path_lns x h3 h4).1 h1 h2 (fun _ => by rw [hx]; exact flat_plain hf)
  · unfold WfStr
    rw [← hL]
    exact hs
  · rw [ht]
    intro i hi
    rw [Nat.zero_add]
    rfl
  · rw [ht]
    exact hL
theorem path_take : ∀ {s : Nat} {ls : List Ln} (n : Nat), path s ls → path s (ls.take n)
  | _, [], n, h => by simpa using h
  | _, _ :: _, 0, _ => trivial
  | _, _ :: _, n + 1, h => ⟨h.1, path_take n h.2⟩
theorem wts_take : ∀ (ls : List Ln) (n : Nat), wts (ls.take n) ≤ wts ls
  | [], n => by simp
  | _ :: _, 0 => by simp [wts]
  | l :: ls, n + 1 => by
    rw [List.take_succ_cons, wts_cons, wts_cons]
    have := wts_take ls n
    omega
/-- Unmarshal at the first n lines of a proper session and what no line can be. -/
theorem unm_cut {x : Ssn} {w0 : World} {v0 v1 v2 v3 v4 v5 v6 v7 v8 v9 v10 : Value} (m : SsnAt w0 x v0 v1 v2 v3 v4 v5 v6 v7 v8 v9 v10) (hf : fitB1 x = true) (hp : proper x = true) (n : Nat)
    (w : World) (e tl : List UInt8) (a : Addr) (hs : (joinEnds e ((linesB x).take n) ++ tl).length ≤ strMax) (hE : Eof w a) (he : isEnd e) (htl : TlOk tl) (ht : tl ≠ []) :
    Calls Tryz.prog 13 #[.string (mk (joinEnds e ((linesB x).take n) ++ tl))] w fun ed w' => Nw w w' ∧ ∃ cs : Array Value, ed = .returned (.tuple #[.agg cs, .bool false]) ∧ cs.size = 19 ∧ cs.all (·.oneCell') = true := by
  obtain ⟨b1, b2⟩ := ssn_fit m hf
  obtain ⟨h1, h2, h3, h4, h5⟩ := lns_ok hp b1
  have hx : ((lns x).take n).map Ln.text = (linesB x).take n := by rw [List.map_take, lns_text x h5]
  have hL : (joinEnds e ((linesB x).take n) ++ tl).length = (mk (joinEnds e ((linesB x).take n) ++ tl)).size := by rw [mk_size]
  refine (imp_unmarshal w (mk (joinEnds e ((linesB x).take n) ++ tl)) e tl ((lns x).take n) a ?_ hE he htl ?_ ?_ (path_take n (path_lns x h3 h4).1) (fun l hl => h1 l (List.mem_of_mem_take hl)) (Nat.le_trans (wts_take _ n) h2) (fun e => absurd e ht)).mono ?_
  · unfold WfStr
    rw [← hL]
    exact hs
  · rw [hx]
    intro i hi
    rw [Nat.zero_add]
    rfl
  · rw [hx]
    exact hL
  · rintro ed w' ⟨hn, ⟨e, _⟩ | ⟨_, h⟩⟩
    · exact absurd e ht
    · exact ⟨hn, h⟩
end Go.Proofs.YtcepdjlknalmnaaGreatDoor

/- The shortest description is read: works. Written by a small program of this claim's own (genwrk). -/
namespace Go.Proofs.YtcepdjlknalmnaaGreatDoor
open Go.RowKit
set_option linter.unusedSimpArgs false
set_option linter.unusedVariables false
attribute [local go_sem ↓] Go.wp_at_zero Go.wp_at_succ wp_store33
attribute [local go_sem] blockOf_ptr cellsOf_agg

def least : ByteArray := ⟨#[118, 61, 48, 13, 10, 111, 61, 45, 32, 49, 32, 49, 32, 73, 78, 32, 73, 80, 52, 32, 97, 13, 10, 115, 61, 120, 13, 10, 116, 61, 48, 32, 48, 13, 10]⟩
def x0 : Ssn := ⟨0, ⟨⟨#[45]⟩, 1, 1, ⟨#[73, 78]⟩, ⟨#[73, 80, 52]⟩, ⟨#[97]⟩⟩, ⟨#[120]⟩, [], [], [], [], [], [], [⟨0, 0, []⟩], [], [], [], []⟩
theorem x0_plain : PlainOk x0 := by
  rintro D w ⟨i, u, e, p, c, b, t, z, k, a, m, hD, hm⟩
  refine imp_plain x0 D w i u e p c b t z k a m hD hm (by unfold WfInt; decide) ⟨by decide, by decide, by decide, by decide, by decide⟩ (fun t ht => ?_) (fun y hy => by cases hy)
  obtain rfl := List.mem_singleton.1 ht
  exact ⟨by decide, fun r hr => by cases hr⟩
theorem x0_proper : proper x0 = true := by decide +kernel
theorem x0_big : SsnBig x0 := ⟨by decide, by decide, fun b hb => (by cases hb), fun t ht => (by obtain rfl := List.mem_singleton.1 ht; decide), fun z hz => (by cases hz), fun m hm => (by cases hm)⟩
theorem x0_text : joinEnds [13, 10] ((lns x0).map Ln.text) = bs least := by decide +kernel
theorem x0_fin : (Pst.zero.apps (lns x0)).fin = x0 := by
  obtain ⟨h1, h2, h3, h4, h5⟩ := lns_ok x0_proper x0_big
  rw [apps_lns x0 h3]
  rfl
theorem law_works (w : World) (a : Addr) (hE : Eof w a) : Calls Tryz.prog 12 #[] w fun e w' => e = .returned (.bool true) ∧ Nw w w' := by
  have HC : Hid (∀ w : World, Eof w a → Calls Tryz.prog 13 #[.string least] w fun ed w' => ∃ cs : Array Value, ed = .returned (.tuple #[.agg cs, .bool true]) ∧ Nw w w' ∧ cs.size = 19 ∧ cs.all (·.oneCell') = true ∧ cs[7]? = some (.string ⟨#[120]⟩)) := Lib.hid (fun w hE => by
    obtain ⟨h1, h2, h3, h4, h5⟩ := lns_ok x0_proper x0_big
    refine (imp_unmarshal w least [13, 10] [] (lns x0) a (by unfold WfStr strMax; decide) hE (.inl rfl) (.inl rfl) ?_ ?_ (path_lns x0 h3 h4).1 h1 h2 (fun _ => by rw [x0_fin]; exact x0_plain)).mono ?_
    · rw [List.append_nil, x0_text]
      intro i hi
      rw [Nat.zero_add]
    · rw [List.append_nil, x0_text, bs_len]
    · rintro ed w' ⟨hn, ⟨_, v, rfl, hv⟩ | ⟨h, _⟩⟩
      · rw [x0_fin] at hv
        obtain ⟨cs, rfl, hcs, hall⟩ := reads_row hv.now
        refine ⟨cs, rfl, hn, hcs, hall, ?_⟩
        obtain ⟨v0, v1, v2, v3, v4, v5, v6, v7, v8, v9, v10, he, m⟩ := hv.now
        injection he with he
        rw [he]
        rfl
      · exact absurd rfl h)
  unfold least at HC
  go_enter Tryz.func12, Tryz.ntmps12
  go_wp2_with (go_at_call 13; (with_reducible refine (HC.out _ hE).mono ?_); rintro ed w1 ⟨cs, rfl, hn, hcs, hall, h7⟩; have hst := storeOk_blk (Blk.made w1 [.int .i64 0, .string ⟨#[]⟩, .int .u64 0, .int .u64 0, .string ⟨#[]⟩, .string ⟨#[]⟩, .string ⟨#[]⟩, .string ⟨#[]⟩, .slice none 0 0, .slice none 0 0, .slice none 0 0, .slice none 0 0, .slice none 0 0, .slice none 0 0, .slice none 0 0, .slice none 0 0, .slice none 0 0, .slice none 0 0, .slice none 0 0] 33) rfl hcs hall; have hc7 := (blk_setRow (l2 := cs.toList) (Blk.made w1 [.int .i64 0, .string ⟨#[]⟩, .int .u64 0, .int .u64 0, .string ⟨#[]⟩, .string ⟨#[]⟩, .string ⟨#[]⟩, .string ⟨#[]⟩, .slice none 0 0, .slice none 0 0, .slice none 0 0, .slice none 0 0, .slice none 0 0, .slice none 0 0, .slice none 0 0, .slice none 0 0, .slice none 0 0, .slice none 0 0, .slice none 0 0] 33)).cell 7 (by simpa using h7))
  go_ret
  exact ⟨rfl, (hn.alloc _).setRow hn.size _⟩
end Go.Proofs.YtcepdjlknalmnaaGreatDoor
