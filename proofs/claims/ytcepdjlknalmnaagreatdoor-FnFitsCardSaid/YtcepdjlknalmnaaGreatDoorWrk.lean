/- The shortest description is read: works. Written by a small program of this claim's own (genwrk). -/
import Derived.Test.YtcepdjlknalmnaaGreatDoorUnw
import Derived.Test.YtcepdjlknalmnaaGreatDoorPla
namespace Go.Proofs.YtcepdjlknalmnaaGreatDoor
open Go.RowKit
set_option linter.unusedSimpArgs false
set_option linter.unusedVariables false
attribute [local go_sem ↓] Go.wp_at_zero Go.wp_at_succ wp_store33
attribute [local go_sem] blockOf_ptr cellsOf_agg

def least : ByteArray := ⟨#[118, 61, 48, 13, 10, 111, 61, 45, 32, 49, 32, 49, 32, 73, 78, 32, 73, 80, 52, 32, 97, 13, 10, 115, 61, 120, 13, 10, 116, 61, 48, 32, 48, 13, 10]⟩
def x0 : Ssn := ⟨0, ⟨⟨#[45]⟩, 1, 1, ⟨#[73, 78]⟩, ⟨#[73, 80, 52]⟩, ⟨#[97]⟩⟩, ⟨#[120]⟩, [], [], [], [], [], [], [⟨0, 0, []⟩], [], [], [], []⟩
theorem x0_plain : PlainOk x0 := by
  rintro D w ⟨i, u, e, p, c, b, t, z, k, a, m, hD, hm⟩
  refine imp_plain0 x0 D w i u e p c b t z k a m hD hm (by unfold WfInt; decide) ⟨by decide, by decide, by decide, by decide, by decide⟩ (fun t ht => ?_) ⟨fun t ht => ?_, rfl, rfl⟩ (fun y hy => by cases hy)
  · obtain rfl := List.mem_singleton.1 ht
    exact ⟨by decide, fun r hr => by cases hr⟩
  · obtain rfl := List.mem_singleton.1 ht
    rfl
theorem x0_proper : proper x0 = true := by decide +kernel
theorem x0_big : SsnBig x0 := ⟨by decide, by decide, fun b hb => (by cases hb), fun t ht => (by obtain rfl := List.mem_singleton.1 ht; decide), fun z hz => (by cases hz), fun m hm => (by cases hm)⟩
theorem x0_text : joinEnds [13, 10] ((lns x0).map Ln.text) = bs least := by decide +kernel
theorem x0_fin : (Pst.zero.apps (lns x0)).fin = x0 := by
  obtain ⟨h1, h2, h3, h4, h5⟩ := lns_ok x0_proper x0_big
  rw [apps_lns x0 h3]
  rfl
theorem law_works (w : World) (a : Addr) (hE : Eof w a) : Calls Tryz.prog 12 #[] w fun e w' => e = .returned (.bool true) ∧ Nw w w' := by
  have HC : Hid (∀ w : World, Eof w a → Calls Tryz.prog 13 #[.string least] w fun ed w' => ∃ cs : Array Value, ed = .returned (.tuple #[.agg cs, .bool true]) ∧ Nw w w' ∧ cs.size = 19 ∧ cs.all (·.oneCell') = true ∧ cs[7]? = some (.string ⟨#[120]⟩)) := Lib.hid (fun w hE => by
    obtain ⟨h1, h2, h3, h4, h5⟩ := lns_ok x0_proper x0_big
    refine (imp_unmarshal w least [13, 10] [] (lns x0) a (by unfold WfStr strMax; decide) hE (.inl rfl) (.inl rfl) ?_ ?_ (path_lns x0 h3 h4).1 h1 h2 (by rw [x0_fin]; exact x0_plain)).mono ?_
    · rw [List.append_nil, x0_text]
      intro i hi
      rw [Nat.zero_add]
    · rw [List.append_nil, x0_text, bs_len]
    · rintro ed w' ⟨hn, ⟨_, v, rfl, hv⟩ | ⟨h, _⟩⟩
      · rw [x0_fin] at hv
        obtain ⟨cs, rfl, hcs, hall⟩ := reads_row hv.now
        refine ⟨cs, rfl, hn, hcs, hall, ?_⟩
        obtain ⟨v0, v1, v2, v3, v4, v5, v6, v7, v8, v9, v10, he, m⟩ := hv.now
        injection he with he
        rw [he]
        rfl
      · exact absurd rfl h)
  unfold least at HC
  go_enter Tryz.func12, Tryz.ntmps12
  go_wp2_with (go_at_call 13; (with_reducible refine (HC.out _ hE).mono ?_); rintro ed w1 ⟨cs, rfl, hn, hcs, hall, h7⟩; have hst := storeOk_blk (Blk.made w1 [.int .i64 0, .string ⟨#[]⟩, .int .u64 0, .int .u64 0, .string ⟨#[]⟩, .string ⟨#[]⟩, .string ⟨#[]⟩, .string ⟨#[]⟩, .slice none 0 0, .slice none 0 0, .slice none 0 0, .slice none 0 0, .slice none 0 0, .slice none 0 0, .slice none 0 0, .slice none 0 0, .slice none 0 0, .slice none 0 0, .slice none 0 0] 33) rfl hcs hall; have hc7 := (blk_setRow (l2 := cs.toList) (Blk.made w1 [.int .i64 0, .string ⟨#[]⟩, .int .u64 0, .int .u64 0, .string ⟨#[]⟩, .string ⟨#[]⟩, .string ⟨#[]⟩, .string ⟨#[]⟩, .slice none 0 0, .slice none 0 0, .slice none 0 0, .slice none 0 0, .slice none 0 0, .slice none 0 0, .slice none 0 0, .slice none 0 0, .slice none 0 0, .slice none 0 0, .slice none 0 0] 33)).cell 7 (by simpa using h7))
  go_ret
  exact ⟨rfl, (hn.alloc _).setRow hn.size _⟩
end Go.Proofs.YtcepdjlknalmnaaGreatDoor
