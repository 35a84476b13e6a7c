/- Laws of this claim. -/
import Derived.Test.YtcepdjlknalmnaaGreatDoorSpecC
set_option linter.unusedSimpArgs false
set_option linter.unusedVariables false
namespace Go.Proofs.YtcepdjlknalmnaaGreatDoor
open Tryz
open Lib (hid)
open Go.RowKit
def qB3 : List ByteArray := [⟨#[97, 117, 100, 105, 111]⟩, ⟨#[118, 105, 100, 101, 111]⟩, ⟨#[116, 101, 120, 116]⟩, ⟨#[97, 112, 112, 108, 105, 99, 97, 116, 105, 111, 110]⟩, ⟨#[109, 101, 115, 115, 97, 103, 101]⟩]
def qBw : List ByteArray := [⟨#[85, 68, 80]⟩, ⟨#[82, 84, 80]⟩, ⟨#[65, 86, 80]⟩, ⟨#[83, 65, 86, 80]⟩, ⟨#[83, 65, 86, 80, 70]⟩, ⟨#[84, 76, 83]⟩, ⟨#[68, 84, 76, 83]⟩, ⟨#[83, 67, 84, 80]⟩, ⟨#[65, 86, 80, 70]⟩]
def qJu (n : Int) : Bool := decide (1 <= n) && decide (n <= 10000)
def qCf (x : Med) : Bool := qDb x.name qB3 && (decide (0 <= x.port) && (decide (x.port <= 65535) && (decide (x.ports.length <= 1) && (decide (0 < x.protos.length) && (decide (x.protos.length <= 5) && (decide (0 < x.fmts.length) && decide (x.fmts.length <= 10)))))))
def qGj (x : Med) : Bool := one x.title && (qEq x.conn && (qF7 x.bws && (one x.key && qEa x.atts)))
def qIw (x : Med) : Bool := qCf x && (x.ports.all qJu && (x.protos.all (fun s => qDb s qBw) && (x.fmts.all qGh && qGj x)))
set_option maxRecDepth 100000 in
set_option maxHeartbeats 1000000 in
theorem qNo (x : Med) (v0 v1 v2 v3 v4 v5 v6 v7 : Value) (w : World) (m : MedAt w x v0 v1 v2 v3 v4 v5 v6 v7) :
 Calls prog 41 #[.agg #[.string x.name, .int .i64 x.port, v0, v1, v2, v3, v4, v5, v6, v7]] w fun e w' => e = .returned (.bool (qIw x)) /\ Nw w w' := by
 obtain ⟨A0, n0, rfl⟩ := Ty.Sl_form m.ports
 obtain ⟨A1, n1, rfl⟩ := Ty.Sl_form m.protos
 obtain ⟨A2, n2, rfl⟩ := Ty.Sl_form m.fmts
 obtain ⟨A3, n3, rfl⟩ := Ty.Sl_form m.title
 obtain ⟨A4, n4, rfl⟩ := Ty.Sl_form m.conn
 obtain ⟨A5, n5, rfl⟩ := Ty.Sl_form m.bws
 obtain ⟨A6, n6, rfl⟩ := Ty.Sl_form m.key
 obtain ⟨A7, n7, rfl⟩ := Ty.Sl_form m.atts
 have q0 : Nw w (w.alloc (.cells #[.string x.name, .int .i64 x.port, .slice A0 x.ports.length n0, .slice A1 x.protos.length n1, .slice A2 x.fmts.length n2, .slice A3 x.title.length n3, .slice A4 x.conn.length n4, .slice A5 x.bws.length n5, .slice A6 x.key.length n6, .slice A7 x.atts.length n7] 86)) := (Nw.refl w).alloc _
 have hs : qAd.Sl ((w.alloc (.cells #[.string x.name, .int .i64 x.port, .slice A0 x.ports.length n0, .slice A1 x.protos.length n1, .slice A2 x.fmts.length n2, .slice A3 x.title.length n3, .slice A4 x.conn.length n4, .slice A5 x.bws.length n5, .slice A6 x.key.length n6, .slice A7 x.atts.length n7] 86)).alloc (.cells #[.string ⟨#[97, 117, 100, 105, 111]⟩, .string ⟨#[118, 105, 100, 101, 111]⟩, .string ⟨#[116, 101, 120, 116]⟩, .string ⟨#[97, 112, 112, 108, 105, 99, 97, 116, 105, 111, 110]⟩, .string ⟨#[109, 101, 115, 115, 97, 103, 101]⟩] 9)) qB3 (.slice (some ⟨w.heap.size + 1, 0, none⟩) 5 5) := by
  have := qH6 (w.alloc (.cells #[.string x.name, .int .i64 x.port, .slice A0 x.ports.length n0, .slice A1 x.protos.length n1, .slice A2 x.fmts.length n2, .slice A3 x.title.length n3, .slice A4 x.conn.length n4, .slice A5 x.bws.length n5, .slice A6 x.key.length n6, .slice A7 x.atts.length n7] 86)) qB3 9 (qCi (by decide)) (by decide) (by decide)
  simpa [qB3] using this
 have q1 : Nw w ((w.alloc (.cells #[.string x.name, .int .i64 x.port, .slice A0 x.ports.length n0, .slice A1 x.protos.length n1, .slice A2 x.fmts.length n2, .slice A3 x.title.length n3, .slice A4 x.conn.length n4, .slice A5 x.bws.length n5, .slice A6 x.key.length n6, .slice A7 x.atts.length n7] 86)).alloc (.cells #[.string ⟨#[97, 117, 100, 105, 111]⟩, .string ⟨#[118, 105, 100, 101, 111]⟩, .string ⟨#[116, 101, 120, 116]⟩, .string ⟨#[97, 112, 112, 108, 105, 99, 97, 116, 105, 111, 110]⟩, .string ⟨#[109, 101, 115, 115, 97, 103, 101]⟩] 9)) := q0.alloc _
 have p1 : Nw (w.alloc (.cells #[.string x.name, .int .i64 x.port, .slice A0 x.ports.length n0, .slice A1 x.protos.length n1, .slice A2 x.fmts.length n2, .slice A3 x.title.length n3, .slice A4 x.conn.length n4, .slice A5 x.bws.length n5, .slice A6 x.key.length n6, .slice A7 x.atts.length n7] 86)) ((w.alloc (.cells #[.string x.name, .int .i64 x.port, .slice A0 x.ports.length n0, .slice A1 x.protos.length n1, .slice A2 x.fmts.length n2, .slice A3 x.title.length n3, .slice A4 x.conn.length n4, .slice A5 x.bws.length n5, .slice A6 x.key.length n6, .slice A7 x.atts.length n7] 86)).alloc (.cells #[.string ⟨#[97, 117, 100, 105, 111]⟩, .string ⟨#[118, 105, 100, 101, 111]⟩, .string ⟨#[116, 101, 120, 116]⟩, .string ⟨#[97, 112, 112, 108, 105, 99, 97, 116, 105, 111, 110]⟩, .string ⟨#[109, 101, 115, 115, 97, 103, 101]⟩] 9)) := (Nw.refl _).alloc _
 have HF : Hid (qCf x = false -> qIw x = false) := hid (fun e => by unfold qIw; rw [e]; rfl)
 cases h1 : qDb x.name qB3
 · clear p1
   go_enter func41, ntmps41
   go_wp2_with (go_at_call 39; refine (qB1 x.name qB3 _ _ hs).mono ?_; rintro e w1 ⟨rfl, rfl⟩)
   go_ret
   exact ⟨qAa (by rw [HF.out (by unfold qCf; rw [h1]; rfl)]), q1⟩
 by_cases h2 : x.port < 0
 · clear p1
   go_enter func41, ntmps41
   go_wp2_with (go_at_call 39; refine (qB1 x.name qB3 _ _ hs).mono ?_; rintro e w1 ⟨rfl, rfl⟩)
   go_ret
   exact ⟨qAa (by rw [HF.out (by unfold qCf; rw [decide_eq_false (p := 0 <= x.port) (by omega)]; simp)]), q1⟩
 by_cases h3 : 65535 < x.port
 · clear p1
   go_enter func41, ntmps41
   go_wp2_with (go_at_call 39; refine (qB1 x.name qB3 _ _ hs).mono ?_; rintro e w1 ⟨rfl, rfl⟩)
   go_ret
   exact ⟨qAa (by rw [HF.out (by unfold qCf; rw [decide_eq_false (p := x.port <= 65535) (by omega)]; simp)]), q1⟩
 by_cases h4 : (1 : Int) < (x.ports.length : Int)
 · clear p1
   go_enter func41, ntmps41
   go_wp2_with (go_at_call 39; refine (qB1 x.name qB3 _ _ hs).mono ?_; rintro e w1 ⟨rfl, rfl⟩)
   go_ret
   exact ⟨qAa (by rw [HF.out (by unfold qCf; rw [decide_eq_false (p := x.ports.length <= 1) (by omega)]; simp)]), q1⟩
 by_cases h5 : x.protos.length = 0
 · have h5' : ((x.protos.length : Int) == 0) = true := by simp [h5]
   have HX : Hid (qCf x = false) := hid (by unfold qCf; rw [decide_eq_false (p := 0 < x.protos.length) (by omega)]; simp)
   clear h5 p1
   go_enter func41, ntmps41
   go_wp2_with (go_at_call 39; refine (qB1 x.name qB3 _ _ hs).mono ?_; rintro e w1 ⟨rfl, rfl⟩)
   go_ret
   exact ⟨qAa (by rw [HF.out HX.out]), q1⟩
 have h5' : ((x.protos.length : Int) == 0) = false := by simp; exact fun e => h5 (by rw [e]; rfl)
 have H5 : Hid (0 < x.protos.length) := hid (by omega)
 clear h5
 by_cases h6 : (5 : Int) < (x.protos.length : Int)
 · clear p1
   go_enter func41, ntmps41
   go_wp2_with (go_at_call 39; refine (qB1 x.name qB3 _ _ hs).mono ?_; rintro e w1 ⟨rfl, rfl⟩)
   go_ret
   exact ⟨qAa (by rw [HF.out (by unfold qCf; rw [decide_eq_false (p := x.protos.length <= 5) (by omega)]; simp)]), q1⟩
 by_cases h7 : x.fmts.length = 0
 · have h7' : ((x.fmts.length : Int) == 0) = true := by simp [h7]
   have HX : Hid (qCf x = false) := hid (by unfold qCf; rw [decide_eq_false (p := 0 < x.fmts.length) (by omega)]; simp)
   clear h7 p1
   go_enter func41, ntmps41
   go_wp2_with (go_at_call 39; refine (qB1 x.name qB3 _ _ hs).mono ?_; rintro e w1 ⟨rfl, rfl⟩)
   go_ret
   exact ⟨qAa (by rw [HF.out HX.out]), q1⟩
 have h7' : ((x.fmts.length : Int) == 0) = false := by simp; exact fun e => h7 (by rw [e]; rfl)
 have H7 : Hid (0 < x.fmts.length) := hid (by omega)
 clear h7
 by_cases h8 : (10 : Int) < (x.fmts.length : Int)
 · clear p1
   go_enter func41, ntmps41
   go_wp2_with (go_at_call 39; refine (qB1 x.name qB3 _ _ hs).mono ?_; rintro e w1 ⟨rfl, rfl⟩)
   go_ret
   exact ⟨qAa (by rw [HF.out (by unfold qCf; rw [decide_eq_false (p := x.fmts.length <= 10) (by omega)]; simp)]), q1⟩
 have HM : Hid (qIw x = (x.ports.all qJu && (x.protos.all (fun s => qDb s qBw) && (x.fmts.all qGh && qGj x)))) := hid (by
  have g5 := H5.out
  have g7 := H7.out
  unfold qIw qCf; rw [h1, decide_eq_true (p := 0 <= x.port) (by omega), decide_eq_true (p := x.port <= 65535) (by omega), decide_eq_true (p := x.ports.length <= 1) (by omega), decide_eq_true g5, decide_eq_true (p := x.protos.length <= 5) (by omega), decide_eq_true g7, decide_eq_true (p := x.fmts.length <= 10) (by omega)]; rfl)
 go_enter func41, ntmps41
 go_wp2_with (go_at_call 39; refine (qB1 x.name qB3 _ _ hs).mono ?_; rintro e w1 ⟨rfl, rfl⟩)
 obtain ⟨wa, hwa⟩ : ∃ wa, wa = (w.alloc (.cells #[.string x.name, .int .i64 x.port, .slice A0 x.ports.length n0, .slice A1 x.protos.length n1, .slice A2 x.fmts.length n2, .slice A3 x.title.length n3, .slice A4 x.conn.length n4, .slice A5 x.bws.length n5, .slice A6 x.key.length n6, .slice A7 x.atts.length n7] 86)).alloc (.cells #[.string ⟨#[97, 117, 100, 105, 111]⟩, .string ⟨#[118, 105, 100, 101, 111]⟩, .string ⟨#[116, 101, 120, 116]⟩, .string ⟨#[97, 112, 112, 108, 105, 99, 97, 116, 105, 111, 110]⟩, .string ⟨#[109, 101, 115, 115, 97, 103, 101]⟩] 9) := ⟨_, rfl⟩
 rw [<- hwa] at q1 p1 ⊢
 clear hwa hs
 have xa := Nw.box p1
 have s0 := Ty.Sl_loc q1.block m.ports
 have hm0 := s0.1
 go_loop [57] (fun i => ∃ k : Nat, k <= x.ports.length /\ i = .int .i64 k /\ Hid ((x.ports.take k).all qJu = true)) (fun i => x.ports.length - (intOf i).toNat)
 case atStart => exact ⟨0, Nat.zero_le _, rfl, hid (by simp)⟩
 obtain ⟨k, hk, rfl, hall⟩ := hrel
 by_cases hlt : k < x.ports.length
 · obtain ⟨b, o, rfl, ha⟩ := Ty.Sl_at s0 k hlt
   obtain ⟨cs, ⟨rfl, hwf⟩, hx⟩ := ha k _ (List.getElem?_eq_getElem hlt)
   have hx := hx 0 _ rfl
   simp only [tyI, qCn, Ty.flat, Nat.mul_one, Nat.add_zero] at hx
   have HT := hid (qBm hlt hall.out)
   have HN := hid (qA6 (f := qJu) hlt)
   by_cases f1 : x.ports[k] < 1
   · go_wp2
     go_ret
     exact ⟨qAa (by rw [HM.out, HN.out (by unfold qJu; rw [decide_eq_false (by omega)]; rfl)]; rfl), q1⟩
   by_cases f2 : 10000 < x.ports[k]
   · go_wp2
     go_ret
     exact ⟨qAa (by rw [HM.out, HN.out (by unfold qJu; rw [decide_eq_false (p := x.ports[k] <= 10000) (by omega)]; simp)]; rfl), q1⟩
   go_wp2
   exact ⟨⟨k + 1, by omega, by go_num, hid (by rw [HT.out]; simp [qJu]; omega)⟩, by simp [intOf]; omega⟩
 have HM1 : Hid (qIw x = (x.protos.all (fun s => qDb s qBw) && (x.fmts.all qGh && qGj x))) := hid (by rw [List.take_of_length_le (by omega)] at hall; rw [HM.out, hall.out, Bool.true_and])
 clear hall s0
 go_wp2
 clear hlt hk hm0
 have s1 := Ty.Sl_loc q1.block m.protos
 have hm1 := s1.1
 go_loopw [71] (fun i wr => ∃ k : Nat, k <= x.protos.length /\ i = .int .i64 k /\ Hid ((x.protos.take k).all (fun s => qDb s qBw) = true) /\ Nw wa wr) (fun i _ => x.protos.length - (intOf i).toNat)
 case atStart => exact ⟨0, Nat.zero_le _, rfl, hid (by simp), Nw.refl _⟩
 obtain ⟨k, hk, rfl, hall, hnw⟩ := hrel
 have qr := q1.trans hnw
 have pr := p1.trans hnw
 have xr := Nw.box pr
 by_cases hlt : k < x.protos.length
 · obtain ⟨b, o, rfl, ha⟩ := Ty.Sl_at s1 k hlt
   obtain ⟨cs, ⟨rfl, hwf⟩, hx⟩ := Ty.At_loc hnw.block ha k _ (List.getElem?_eq_getElem hlt)
   have hx := hx 0 _ rfl
   simp only [qAd, Ty.flat, Nat.mul_one, Nat.add_zero] at hx
   have HT := hid (qBm hlt hall.out)
   have HN := hid (qA6 (f := fun s : ByteArray => qDb s qBw) hlt)
   have hs : qAd.Sl (wr.alloc (.cells #[.string ⟨#[85, 68, 80]⟩, .string ⟨#[82, 84, 80]⟩, .string ⟨#[65, 86, 80]⟩, .string ⟨#[83, 65, 86, 80]⟩, .string ⟨#[83, 65, 86, 80, 70]⟩, .string ⟨#[84, 76, 83]⟩, .string ⟨#[68, 84, 76, 83]⟩, .string ⟨#[83, 67, 84, 80]⟩, .string ⟨#[65, 86, 80, 70]⟩] 9)) qBw (.slice (some ⟨wr.heap.size, 0, none⟩) 9 9) := qH6 wr qBw 9 (qCi (by decide)) (by decide) (by decide)
   go_wp2_with (go_at_call 39; refine (qB1 x.protos[k] qBw _ _ hs).mono ?_; rintro e w1 ⟨rfl, rfl⟩)
   · go_ret
     exact ⟨qAa (by rw [HM1.out, HN.out (by simp_all)]; rfl), qr.alloc _⟩
   exact ⟨⟨k + 1, by omega, by go_num, hid (by rw [HT.out]; simp_all), hnw.alloc _⟩, by simp [intOf]; omega⟩
 have HM2 : Hid (qIw x = (x.fmts.all qGh && qGj x)) := hid (by rw [List.take_of_length_le (by omega)] at hall; rw [HM1.out, hall.out, Bool.true_and])
 clear hall s1
 go_wp2
 clear hlt hk hm1
 have s2 := Ty.Sl_loc qr.block m.fmts
 have hm2 := s2.1
 go_loop [83] (fun i => ∃ k : Nat, k <= x.fmts.length /\ i = .int .i64 k /\ Hid ((x.fmts.take k).all qGh = true)) (fun i => x.fmts.length - (intOf i).toNat)
 case atStart => exact ⟨0, Nat.zero_le _, rfl, hid (by simp)⟩
 obtain ⟨k, hk, rfl, hall⟩ := hrel
 by_cases hlt : k < x.fmts.length
 · obtain ⟨b, o, rfl, ha⟩ := Ty.Sl_at s2 k hlt
   obtain ⟨cs, ⟨rfl, hwf⟩, hx⟩ := ha k _ (List.getElem?_eq_getElem hlt)
   have hx := hx 0 _ rfl
   simp only [qAd, Ty.flat, Nat.mul_one, Nat.add_zero] at hx
   have HT := hid (qBm hlt hall.out)
   have HN := hid (qA6 (f := qGh) hlt)
   go_wp2_with (go_at_call 38; refine (qB4 x.fmts[k] _ hwf).mono ?_; rintro e w1 ⟨rfl, rfl⟩)
   · go_ret
     exact ⟨qAa (by rw [HM2.out, HN.out (by simp_all)]; rfl), qr⟩
   exact ⟨⟨k + 1, by omega, by go_num, hid (by rw [HT.out]; simp_all)⟩, by simp [intOf]; omega⟩
 have HM3 : Hid (qIw x = qGj x) := hid (by rw [List.take_of_length_le (by omega)] at hall; rw [HM2.out, hall.out, Bool.true_and])
 clear hall s2
 have t3 := Ty.Sl_loc qr.block m.title
 have t4 := Ty.Sl_loc qr.block m.conn
 cases g1 : one x.title
 rotate_left
 cases g2 : qEq x.conn
 rotate_left
 cases g3 : qF7 x.bws
 rotate_left
 cases g4 : one x.key
 rotate_left
 cases g5 : qEa x.atts
 rotate_left
 all_goals go_wp2_with (first | (go_at_call 42; (with_reducible refine (qE3 x.title _ _ t3).mono ?_); rintro e w1 ⟨rfl, rfl⟩) | (go_at_call 43; refine (qFk x.conn _ _ t4).mono ?_; rintro e w5 ⟨rfl, hn5⟩; have q5 := qr.trans hn5; have p5 := pr.trans hn5; have x5 := Nw.box p5) | (go_at_call 44; refine (qFp x.bws _ _ (Ty.Sl_loc q5.block m.bws)).mono ?_; rintro e w6 ⟨rfl, hn6⟩; have q6 := q5.trans hn6; have p6 := p5.trans hn6; have x6 := Nw.box p6) | (go_at_call 42; (with_reducible refine (qE3 x.key _ _ (Ty.Sl_loc q6.block m.key)).mono ?_); rintro e w1 ⟨rfl, rfl⟩) | (go_at_call 45; refine (qFo x.atts _ _ (Ty.Sl_loc q6.block m.atts)).mono ?_; rintro e w7 ⟨rfl, hn7⟩; have q7 := q6.trans hn7))
 all_goals go_ret
 all_goals exact ⟨qAa (by rw [HM3.out]; unfold qGj; first | (rw [g1]; rfl) | (rw [g1, g2]; rfl) | (rw [g1, g2, g3]; rfl) | (rw [g1, g2, g3, g4]; rfl) | (rw [g1, g2, g3, g4, g5]; rfl)), by first | exact qr | exact q5 | exact q6 | exact q7⟩
end Go.Proofs.YtcepdjlknalmnaaGreatDoor
/- What the reference answers of a session. Written by a small program of this claim's own (genproper). -/
namespace Go.Proofs.YtcepdjlknalmnaaGreatDoor
open Tryz
open Lib (hid)
open Go.RowKit
def zonB (z : Zon) : Bool := decide (z.time < 1125899906842624) && (decide (-1099511627776 < z.off) && decide (z.off < 1099511627776))
def qIb (x : Ssn) : Bool := (x.ver == 0) && (qGh x.org.user && ((x.org.net.toList == [73, 78]) && (qDb x.org.addr qA1 && (qGh x.org.adr && (line x.name && (qEk x.times && (decide (x.zones.length <= 5) && decide (x.media.length <= 5))))))))
def qGk (x : Ssn) : Bool := one x.info && (one x.uri && (one x.email && (one x.phone && (qEq x.conn && (qF7 x.bws && (one x.key && qEa x.atts))))))
def qC5 (x : Ssn) : Bool := qIb x && (x.zones.all zonB && (x.media.all qIw && qGk x))
set_option maxRecDepth 100000 in
set_option maxHeartbeats 2000000 in
theorem qLv (x : Ssn) (v0 v1 v2 v3 v4 v5 v6 v7 v8 v9 v10 : Value) (w : World) (m : SsnAt w x v0 v1 v2 v3 v4 v5 v6 v7 v8 v9 v10) :
 Calls prog 11 #[qBv x v0 v1 v2 v3 v4 v5 v6 v7 v8 v9 v10] w fun e w' => e = .returned (.bool (qC5 x)) /\ Nw w w' := by
 unfold qBv
 obtain ⟨A0, n0, rfl⟩ := Ty.Sl_form m.info
 obtain ⟨A1, n1, rfl⟩ := Ty.Sl_form m.uri
 obtain ⟨A2, n2, rfl⟩ := Ty.Sl_form m.email
 obtain ⟨A3, n3, rfl⟩ := Ty.Sl_form m.phone
 obtain ⟨A4, n4, rfl⟩ := Ty.Sl_form m.conn
 obtain ⟨A5, n5, rfl⟩ := Ty.Sl_form m.bws
 obtain ⟨A6, n6, rfl⟩ := Ty.Sl_form m.times
 obtain ⟨A7, n7, rfl⟩ := Ty.Sl_form m.zones
 obtain ⟨A8, n8, rfl⟩ := Ty.Sl_form m.key
 obtain ⟨A9, n9, rfl⟩ := Ty.Sl_form m.atts
 obtain ⟨A10, n10, rfl⟩ := Ty.Sl_form m.media
 have hz0 := m.zones.1
 have q0 : Nw w ((w.alloc (.cells #[.int .i64 x.ver, .string x.org.user, .int .u64 x.org.id, .int .u64 x.org.ver, .string x.org.net, .string x.org.addr, .string x.org.adr, .string x.name, .slice A0 x.info.length n0, .slice A1 x.uri.length n1, .slice A2 x.email.length n2, .slice A3 x.phone.length n3, .slice A4 x.conn.length n4, .slice A5 x.bws.length n5, .slice A6 x.times.length n6, .slice A7 x.zones.length n7, .slice A8 x.key.length n8, .slice A9 x.atts.length n9, .slice A10 x.media.length n10] 43)).alloc (.cells #[.string x.org.user, .int .u64 x.org.id, .int .u64 x.org.ver, .string x.org.net, .string x.org.addr, .string x.org.adr] 35)) := ((Nw.refl w).alloc _).alloc _
 have p0 : Nw (w.alloc (.cells #[.int .i64 x.ver, .string x.org.user, .int .u64 x.org.id, .int .u64 x.org.ver, .string x.org.net, .string x.org.addr, .string x.org.adr, .string x.name, .slice A0 x.info.length n0, .slice A1 x.uri.length n1, .slice A2 x.email.length n2, .slice A3 x.phone.length n3, .slice A4 x.conn.length n4, .slice A5 x.bws.length n5, .slice A6 x.times.length n6, .slice A7 x.zones.length n7, .slice A8 x.key.length n8, .slice A9 x.atts.length n9, .slice A10 x.media.length n10] 43)) ((w.alloc (.cells #[.int .i64 x.ver, .string x.org.user, .int .u64 x.org.id, .int .u64 x.org.ver, .string x.org.net, .string x.org.addr, .string x.org.adr, .string x.name, .slice A0 x.info.length n0, .slice A1 x.uri.length n1, .slice A2 x.email.length n2, .slice A3 x.phone.length n3, .slice A4 x.conn.length n4, .slice A5 x.bws.length n5, .slice A6 x.times.length n6, .slice A7 x.zones.length n7, .slice A8 x.key.length n8, .slice A9 x.atts.length n9, .slice A10 x.media.length n10] 43)).alloc (.cells #[.string x.org.user, .int .u64 x.org.id, .int .u64 x.org.ver, .string x.org.net, .string x.org.addr, .string x.org.adr] 35)) := (Nw.refl _).alloc _
 have hs : qAd.Sl (((w.alloc (.cells #[.int .i64 x.ver, .string x.org.user, .int .u64 x.org.id, .int .u64 x.org.ver, .string x.org.net, .string x.org.addr, .string x.org.adr, .string x.name, .slice A0 x.info.length n0, .slice A1 x.uri.length n1, .slice A2 x.email.length n2, .slice A3 x.phone.length n3, .slice A4 x.conn.length n4, .slice A5 x.bws.length n5, .slice A6 x.times.length n6, .slice A7 x.zones.length n7, .slice A8 x.key.length n8, .slice A9 x.atts.length n9, .slice A10 x.media.length n10] 43)).alloc (.cells #[.string x.org.user, .int .u64 x.org.id, .int .u64 x.org.ver, .string x.org.net, .string x.org.addr, .string x.org.adr] 35)).alloc (.cells #[.string ⟨#[73, 80, 52]⟩, .string ⟨#[73, 80, 54]⟩] 9)) qA1 (.slice (some ⟨w.heap.size + 2, 0, none⟩) 2 2) := by
  have := qH6 ((w.alloc (.cells #[.int .i64 x.ver, .string x.org.user, .int .u64 x.org.id, .int .u64 x.org.ver, .string x.org.net, .string x.org.addr, .string x.org.adr, .string x.name, .slice A0 x.info.length n0, .slice A1 x.uri.length n1, .slice A2 x.email.length n2, .slice A3 x.phone.length n3, .slice A4 x.conn.length n4, .slice A5 x.bws.length n5, .slice A6 x.times.length n6, .slice A7 x.zones.length n7, .slice A8 x.key.length n8, .slice A9 x.atts.length n9, .slice A10 x.media.length n10] 43)).alloc (.cells #[.string x.org.user, .int .u64 x.org.id, .int .u64 x.org.ver, .string x.org.net, .string x.org.addr, .string x.org.adr] 35)) qA1 9 (qCi (by decide)) (by decide) (by decide)
  simpa [qA1] using this
 have q1 : Nw w (((w.alloc (.cells #[.int .i64 x.ver, .string x.org.user, .int .u64 x.org.id, .int .u64 x.org.ver, .string x.org.net, .string x.org.addr, .string x.org.adr, .string x.name, .slice A0 x.info.length n0, .slice A1 x.uri.length n1, .slice A2 x.email.length n2, .slice A3 x.phone.length n3, .slice A4 x.conn.length n4, .slice A5 x.bws.length n5, .slice A6 x.times.length n6, .slice A7 x.zones.length n7, .slice A8 x.key.length n8, .slice A9 x.atts.length n9, .slice A10 x.media.length n10] 43)).alloc (.cells #[.string x.org.user, .int .u64 x.org.id, .int .u64 x.org.ver, .string x.org.net, .string x.org.addr, .string x.org.adr] 35)).alloc (.cells #[.string ⟨#[73, 80, 52]⟩, .string ⟨#[73, 80, 54]⟩] 9)) := q0.alloc _
 have p1 : Nw (w.alloc (.cells #[.int .i64 x.ver, .string x.org.user, .int .u64 x.org.id, .int .u64 x.org.ver, .string x.org.net, .string x.org.addr, .string x.org.adr, .string x.name, .slice A0 x.info.length n0, .slice A1 x.uri.length n1, .slice A2 x.email.length n2, .slice A3 x.phone.length n3, .slice A4 x.conn.length n4, .slice A5 x.bws.length n5, .slice A6 x.times.length n6, .slice A7 x.zones.length n7, .slice A8 x.key.length n8, .slice A9 x.atts.length n9, .slice A10 x.media.length n10] 43)) (((w.alloc (.cells #[.int .i64 x.ver, .string x.org.user, .int .u64 x.org.id, .int .u64 x.org.ver, .string x.org.net, .string x.org.addr, .string x.org.adr, .string x.name, .slice A0 x.info.length n0, .slice A1 x.uri.length n1, .slice A2 x.email.length n2, .slice A3 x.phone.length n3, .slice A4 x.conn.length n4, .slice A5 x.bws.length n5, .slice A6 x.times.length n6, .slice A7 x.zones.length n7, .slice A8 x.key.length n8, .slice A9 x.atts.length n9, .slice A10 x.media.length n10] 43)).alloc (.cells #[.string x.org.user, .int .u64 x.org.id, .int .u64 x.org.ver, .string x.org.net, .string x.org.addr, .string x.org.adr] 35)).alloc (.cells #[.string ⟨#[73, 80, 52]⟩, .string ⟨#[73, 80, 54]⟩] 9)) := p0.alloc _
 have t1 := Ty.Sl_loc q1.block m.times
 have HF : Hid (qIb x = false -> qC5 x = false) := hid (fun e => by unfold qC5; rw [e]; rfl)
 cases h1 : (x.ver == 0)
 rotate_left
 cases h2 : qGh x.org.user
 rotate_left
 cases h3 : (x.org.net.toList == [73, 78])
 rotate_left
 cases h4 : qDb x.org.addr qA1
 rotate_left
 cases h5 : qGh x.org.adr
 rotate_left
 cases h6 : line x.name
 rotate_left
 cases h7 : qEk x.times
 rotate_left
 by_cases h8 : (5 : Int) < (x.zones.length : Int)
 rotate_left
 by_cases h9 : (5 : Int) < (x.media.length : Int)
 rotate_left
 all_goals have h1' : (x.ver != 0) = !(x.ver == 0) := rfl
 all_goals rw [h1] at h1'
 all_goals simp only [Bool.not_true, Bool.not_false] at h1'
 all_goals try have h3' : (x.org.net.toList != [73, 78]) = !(x.org.net.toList == [73, 78]) := rfl
 all_goals try rw [h3] at h3'
 all_goals try simp only [Bool.not_true, Bool.not_false] at h3'
 all_goals go_enter func11, ntmps11
 all_goals go_wp2_with (first | (go_at_call 38; (with_reducible refine (qB4 x.org.user _ m.user).mono ?_); rintro e w1 ⟨rfl, rfl⟩) | (go_at_call 39; refine (qB1 x.org.addr qA1 _ _ hs).mono ?_; rintro e w1 ⟨rfl, rfl⟩) | (go_at_call 38; (with_reducible refine (qB4 x.org.adr _ m.oadr).mono ?_); rintro e w1 ⟨rfl, rfl⟩) | (go_at_call 19; refine (qFn x.name _ m.name).mono ?_; rintro e w1 ⟨rfl, rfl⟩) | (go_at_call 40; refine (qNk x.times _ _ t1).mono ?_; rintro e w5 ⟨rfl, hn5⟩; have q5 := q1.trans hn5; have p5 := p1.trans hn5; have x5 := Nw.box p5))
 all_goals try (go_ret; exact ⟨qAa (by rw [HF.out (by unfold qIb; first | (rw [h1]; rfl) | (rw [h2]; simp; done) | (rw [h3]; simp; done) | (rw [h4]; simp; done) | (rw [h5]; simp; done) | (rw [h6]; simp; done) | (rw [h7]; simp; done) | (rw [decide_eq_false (p := x.zones.length <= 5) (by omega)]; simp; done) | (rw [decide_eq_false (p := x.media.length <= 5) (by omega)]; simp; done))]), by first | exact q0 | exact q1 | exact q5⟩)
 have HM : Hid (qC5 x = (x.zones.all zonB && (x.media.all qIw && qGk x))) := hid (by unfold qC5 qIb; rw [h1, h2, h3, h4, h5, h6, h7, decide_eq_true (p := x.zones.length <= 5) (by omega), decide_eq_true (p := x.media.length <= 5) (by omega)]; rfl)
 have s0 := Ty.Sl_loc q5.block m.zones
 clear hs t1 hn5 q0 q1 p0 p1
 go_loopw [64] (fun i wr => ∃ k : Nat, k <= x.zones.length /\ i = .int .i64 k /\ Hid ((x.zones.take k).all zonB = true) /\ Nw w5 wr) (fun i _ => x.zones.length - (intOf i).toNat)
 case atStart => exact ⟨0, Nat.zero_le _, rfl, hid (by simp), Nw.refl _⟩
 obtain ⟨k, hk, rfl, hall, hnw⟩ := hrel
 have qr := q5.trans hnw
 have pr := p5.trans hnw
 have xr := Nw.box pr
 by_cases hlt : k < x.zones.length
 · obtain ⟨b, o, rfl, ha⟩ := Ty.Sl_at s0 k hlt
   obtain ⟨cs, ⟨rfl, hwf⟩, hx⟩ := Ty.At_loc hnw.block ha k _ (List.getElem?_eq_getElem hlt)
   have c0 := hx 0 _ rfl
   have c1 := hx 1 _ rfl
   simp only [qDt, Ty.flat, Nat.add_zero] at c0 c1
   have HT := hid (qBm hlt hall.out)
   have HN := hid (qA6 (f := zonB) hlt)
   clear hx
   by_cases f1 : 1125899906842624 <= x.zones[k].time
   · go_wp2
     go_ret
     exact ⟨qAa (by rw [HM.out, HN.out (by unfold zonB; rw [decide_eq_false (by omega)]; rfl)]; rfl), qr.alloc _⟩
   by_cases f2 : x.zones[k].off <= -1099511627776
   · go_wp2
     go_ret
     exact ⟨qAa (by rw [HM.out, HN.out (by unfold zonB; rw [decide_eq_false (p := -1099511627776 < x.zones[k].off) (by omega)]; simp)]; rfl), qr.alloc _⟩
   by_cases f3 : 1099511627776 <= x.zones[k].off
   · go_wp2
     go_ret
     exact ⟨qAa (by rw [HM.out, HN.out (by unfold zonB; rw [decide_eq_false (p := x.zones[k].off < _) (by omega)]; simp)]; rfl), qr.alloc _⟩
   go_wp2
   exact ⟨⟨k + 1, by omega, by go_num, hid (by rw [HT.out]; simp [zonB]; omega), hnw.alloc _⟩, by simp [intOf]; omega⟩
 have HM1 : Hid (qC5 x = (x.media.all qIw && qGk x)) := hid (by rw [List.take_of_length_le (by omega)] at hall; rw [HM.out, hall.out, Bool.true_and])
 clear hall s0
 go_wp2
 clear hlt hk
 obtain ⟨wo, rfl⟩ : ∃ wo : World, wo = wr := ⟨_, rfl⟩
 have s1 := Ty.Sl_loc qr.block m.media
 go_loopw [85] (fun i wr => ∃ k : Nat, k <= x.media.length /\ i = .int .i64 k /\ Hid ((x.media.take k).all qIw = true) /\ Nw wo wr) (fun i _ => x.media.length - (intOf i).toNat)
 case atStart => exact ⟨0, Nat.zero_le _, rfl, hid (by simp), Nw.refl _⟩
 obtain ⟨k, hk, rfl, hall, hnw2⟩ := hrel
 have qs := qr.trans hnw2
 have ps := pr.trans hnw2
 have xs := Nw.box ps
 by_cases hlt : k < x.media.length
 · obtain ⟨b, o, rfl, ha⟩ := Ty.Sl_at s1 k hlt
   obtain ⟨cs, ⟨u0, u1, u2, u3, u4, u5, u6, u7, rfl, mm⟩, hx⟩ := Ty.At_loc hnw2.block ha k _ (List.getElem?_eq_getElem hlt)
   obtain ⟨C0, d0, rfl⟩ := Ty.Sl_form mm.ports
   obtain ⟨C1, d1, rfl⟩ := Ty.Sl_form mm.protos
   obtain ⟨C2, d2, rfl⟩ := Ty.Sl_form mm.fmts
   obtain ⟨C3, d3, rfl⟩ := Ty.Sl_form mm.title
   obtain ⟨C4, d4, rfl⟩ := Ty.Sl_form mm.conn
   obtain ⟨C5, d5, rfl⟩ := Ty.Sl_form mm.bws
   obtain ⟨C6, d6, rfl⟩ := Ty.Sl_form mm.key
   obtain ⟨C7, d7, rfl⟩ := Ty.Sl_form mm.atts
   obtain ⟨c0, c1, c2, c3, c4, c5, c6, c7, c8, c9⟩ := qLp (o := o + k * 10) hx
   have HT := hid (qBm hlt hall.out)
   have HN := hid (qA6 (f := qIw) hlt)
   clear hx
   go_wp2_with (go_at_call 41; refine (qNo x.media[k] _ _ _ _ _ _ _ _ _ (by exact mm.loc ((Nw.refl wr).alloc _).block)).mono ?_; rintro e w1 ⟨rfl, hn1⟩)
   · go_ret
     exact ⟨qAa (by rw [HM1.out, HN.out (by simp_all)]; rfl), (qs.alloc _).trans hn1⟩
   exact ⟨⟨k + 1, by omega, by go_num, hid (by rw [HT.out]; simp_all), (hnw2.alloc _).trans hn1⟩, by simp [intOf]; omega⟩
 have HM2 : Hid (qC5 x = qGk x) := hid (by rw [List.take_of_length_le (by omega)] at hall; rw [HM1.out, hall.out, Bool.true_and])
 clear hall s1
 cases g1 : one x.info
 rotate_left
 cases g2 : one x.uri
 rotate_left
 cases g3 : one x.email
 rotate_left
 cases g4 : one x.phone
 rotate_left
 cases g5 : qEq x.conn
 rotate_left
 cases g6 : qF7 x.bws
 rotate_left
 cases g7 : one x.key
 rotate_left
 cases g8 : qEa x.atts
 rotate_left
 all_goals go_wp2_with (first | (go_at_call 42; (with_reducible refine (qE3 x.info _ _ (Ty.Sl_loc qs.block m.info)).mono ?_); rintro e w1 ⟨rfl, rfl⟩) | (go_at_call 42; (with_reducible refine (qE3 x.uri _ _ (Ty.Sl_loc qs.block m.uri)).mono ?_); rintro e w1 ⟨rfl, rfl⟩) | (go_at_call 42; (with_reducible refine (qE3 x.email _ _ (Ty.Sl_loc qs.block m.email)).mono ?_); rintro e w1 ⟨rfl, rfl⟩) | (go_at_call 42; (with_reducible refine (qE3 x.phone _ _ (Ty.Sl_loc qs.block m.phone)).mono ?_); rintro e w1 ⟨rfl, rfl⟩) | (go_at_call 43; refine (qFk x.conn _ _ (Ty.Sl_loc qs.block m.conn)).mono ?_; rintro e w7 ⟨rfl, hn7⟩; have q7 := qs.trans hn7; have p7 := ps.trans hn7; have x7 := Nw.box p7) | (go_at_call 44; refine (qFp x.bws _ _ (Ty.Sl_loc q7.block m.bws)).mono ?_; rintro e w8 ⟨rfl, hn8⟩; have q8 := q7.trans hn8; have p8 := p7.trans hn8; have x8 := Nw.box p8) | (go_at_call 42; (with_reducible refine (qE3 x.key _ _ (Ty.Sl_loc q8.block m.key)).mono ?_); rintro e w1 ⟨rfl, rfl⟩) | (go_at_call 45; refine (qFo x.atts _ _ (Ty.Sl_loc q8.block m.atts)).mono ?_; rintro e w9 ⟨rfl, hn9⟩; have q9 := q8.trans hn9))
 all_goals go_ret
 all_goals exact ⟨qAa (by rw [HM2.out]; unfold qGk; first | (rw [g1]; rfl) | (rw [g1, g2]; rfl) | (rw [g1, g2, g3]; rfl) | (rw [g1, g2, g3, g4]; rfl) | (rw [g1, g2, g3, g4, g5]; rfl) | (rw [g1, g2, g3, g4, g5, g6]; rfl) | (rw [g1, g2, g3, g4, g5, g6, g7]; rfl) | (rw [g1, g2, g3, g4, g5, g6, g7, g8]; rfl)), by first | exact qs | exact q7 | exact q8 | exact q9⟩
end Go.Proofs.YtcepdjlknalmnaaGreatDoor
