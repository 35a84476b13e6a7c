/- Laws of this claim. -/
import Derived.Test.YtcepdjlknalmnaaGreatDoorMar
import Derived.Test.YtcepdjlknalmnaaGreatDoorMsm
set_option linter.unusedSimpArgs false
set_option linter.unusedVariables false
namespace Go.Proofs.YtcepdjlknalmnaaGreatDoor
open Tryz
open List (length_append length_nil append_assoc nil_append map_nil append_nil take_zero take_of_length_le)
open Lib (hid)
open Go.RowKit
attribute [local go_sem ↓] Go.wp_at_zero Go.wp_at_succ
theorem qBc (l : Ln) : (jt [l]).length = l.body.length + 4 := by
 rw [qJo]
 simp only [length_append, List.length_cons, length_nil]
 omega
theorem szs {n0 nb : Nat} {ls : List Ln} {ln : Ln} (h0 : n0 = (jt ls).length) (hb : nb = ln.body.length) : n0 + (4 + nb) = (jt (ls ++ [ln])).length := by
 rw [qAl, length_append, qBc]
 omega
set_option maxRecDepth 100000 in
set_option maxHeartbeats 4000000 in
theorem par_size (x : Ssn) (D : Nat) (w : World) (vi vu ve vp vc vb vt vz vk va vm : Value) (hD : Blk w D (qEd x vi vu ve vp vc vb vt vz vk va vm) 115) (m : PSsnAt w x vi vu ve vp vc vb vt vz vk va vm) (hok : MarOk x) :
 Calls prog 55 #[.pointer (some ⟨D, 0, none⟩)] w (qBi (jt (lns x)).length w) := by
 obtain ⟨ai, rfl⟩ := Ty.Pt_form m.info
 obtain ⟨au, rfl⟩ := Ty.Pt_form m.uri
 obtain ⟨ae, rfl⟩ := Ty.Pt_form m.email
 obtain ⟨ap, rfl⟩ := Ty.Pt_form m.phone
 obtain ⟨ac, rfl⟩ := Ty.Pt_form m.conn
 obtain ⟨ak, rfl⟩ := Ty.Pt_form m.key
 unfold qEd at hD
 have HOK := hid hok
 have M := hid m
 have hlen := hok.len
 have hlns : lns x = [.lv, .lo x.org, .ls x.name] ++ x.info.map .li ++ x.uri.map .lu ++ x.email.map .le ++ x.phone.map .lp ++ x.conn.map .lc ++ x.bws.map .lb ++ x.times.flatMap qBl ++ (if x.zones.length = 0 then [] else [.lz x.zones]) ++ x.key.map .lk ++ x.atts.map .la ++ x.media.flatMap qBn := by
  unfold lns
  simp only [append_assoc, List.cons_append, nil_append]
 have hl0 : (jt [.lv]).length + (jt [.lo x.org]).length + (jt [.ls x.name]).length + (jt (x.info.map .li)).length + (jt (x.uri.map .lu)).length + (jt (x.email.map .le)).length + (jt (x.phone.map .lp)).length + (jt (x.conn.map .lc)).length + (jt (x.bws.map .lb)).length + (jt (x.times.flatMap qBl)).length + (jt (if x.zones.length = 0 then [] else [.lz x.zones])).length + (jt (x.key.map .lk)).length + (jt (x.atts.map .la)).length + (jt (x.media.flatMap qBn)).length + 1024 <= 140737488355328 := by
  rw [hlns] at hlen
  have e : ([.lv, .lo x.org, .ls x.name] : List Ln) = [.lv] ++ [.lo x.org] ++ [.ls x.name] := rfl
  rw [e] at hlen
  simp only [qAl, length_append] at hlen
  omega
 have HL := hid hl0
 have HLNS := hid hlns
 clear hlen hlns hl0 hok m
 have c0 := hD.cell 0 rfl
 rw [HOK.out.ver] at hD c0
 obtain ⟨b0, hb0⟩ : ∃ n : Nat, n = (Ln.body (.lv)).length := ⟨_, rfl⟩
 have bb0 : b0 <= 140737488355328 := by rw [hb0]; exact (by have h9 := HL.out; have h0 := qBc (.lv); omega)
 have K0 : Hid (∀ w1, Nw w w1 -> Calls prog 102 #[.int .i64 0] w1 (qBi b0 w1)) := hid (by rw [hb0]; exact fun w1 hn => by have h := sz_ver 0 w1 (by unfold qAg; decide); rw [qJ8] at h; exact h)
 have Hb0 := hid hb0
 clear hb0
 obtain ⟨b1, hb1⟩ : ∃ n : Nat, n = (Ln.body (.lo x.org)).length := ⟨_, rfl⟩
 have bb1 : b1 <= 140737488355328 := by rw [hb1]; exact (by have h9 := HL.out; have h0 := qBc (.lo x.org); omega)
 have K1 : Hid (∀ w1, Nw w w1 -> Calls prog 103 #[.agg #[.string x.org.user, .int .u64 x.org.id, .int .u64 x.org.ver, .string x.org.net, .string x.org.addr, .string x.org.adr]] w1 (qBi b1 w1)) := hid (by rw [hb1]; exact fun w1 hn => sz_org x.org w1 M.out.oid M.out.over (Nat.le_trans (show (Ln.body (.lo x.org)).length <= 140737488355328 by have h9 := HL.out; have h0 := qBc (.lo x.org); omega) (by decide)))
 have Hb1 := hid hb1
 clear hb1
 obtain ⟨b2, hb2⟩ : ∃ n : Nat, n = (Ln.body (.ls x.name)).length := ⟨_, rfl⟩
 have bb2 : b2 <= 140737488355328 := by rw [hb2]; exact (by have h9 := HL.out; have h0 := qBc (.ls x.name); omega)
 have K2 : Hid (∀ w1, Nw w w1 -> Calls prog 104 #[.string x.name] w1 (qBi b2 w1)) := hid (by rw [hb2]; exact fun w1 hn => sz_name x.name w1)
 have Hb2 := hid hb2
 clear hb2
 have HD := hid hD
 go_enter func55, ntmps55
 have n0 := Nw.refl w
 have d0_0 := (HD.out.nw n0).cell 0 rfl
 go_upto_if 47 with (first
  | (go_at_call 102; (with_reducible refine (K0.out _ n0).mono ?_); rintro e W1 ⟨rfl, hq1⟩; have n1 := n0.trans hq1; have d1_1 := (HD.out.nw n1).cell 1 rfl; have d1_2 := (HD.out.nw n1).cell 2 rfl; have d1_3 := (HD.out.nw n1).cell 3 rfl; have d1_4 := (HD.out.nw n1).cell 4 rfl; have d1_5 := (HD.out.nw n1).cell 5 rfl; have d1_6 := (HD.out.nw n1).cell 6 rfl)
  | (go_at_call 103; (with_reducible refine (K1.out _ n1).mono ?_); rintro e W2 ⟨rfl, hq2⟩; have n2 := n1.trans hq2; have d2_7 := (HD.out.nw n2).cell 7 rfl)
  | (go_at_call 104; (with_reducible refine (K2.out _ n2).mono ?_); rintro e W3 ⟨rfl, hq3⟩; have n3 := n2.trans hq3; have d3_8 := (HD.out.nw n3).cell 8 rfl))
 have hS3 : b0 + 4 + (b1 + 4) + (b2 + 4) = (jt (L3 x)).length := by
  unfold L3; rw [nil_append, qAl, qAl, length_append, length_append, qBc, qBc, qBc, Hb0.out, Hb1.out, Hb2.out]
 have bS3 : b0 + 4 + (b1 + 4) + (b2 + 4) <= 140737488355328 := by rw [hS3]; have h9 := HL.out; simp only [qD9]; omega
 try simp (disch := omega) only [qB6]
 obtain ⟨s3, hs3⟩ : ∃ n : Nat, n = b0 + 4 + (b1 + 4) + (b2 + 4) := ⟨_, rfl⟩
 rw [<- hs3] at hS3 bS3
 have es3 : (0 : Int) + (4 + (b0 : Int)) + (4 + (b1 : Int)) + (4 + (b2 : Int)) = (s3 : Int) := by omega
 try rw [es3]
 try rw [show (4 + (b0 : Int)) + (4 + (b1 : Int)) + (4 + (b2 : Int)) = (s3 : Int) by omega]
 have HS3 := hid hS3
 clear K0 K1 K2 Hb0 Hb1 Hb2 bb0 bb1 bb2 hs3 es3 hS3 d1_1 d1_2 d1_3 d1_4 d1_5 d1_6 d2_7 d0_0 c0 n0 n1 n2 hq1 hq2 hq3
 go_upto_if 47 with fail
 go_cut [2] from 48 to 57 (fun v2 wc => ∃ n : Nat, v2 = .int .i64 (n : Int) /\ Hid (n = (jt (L4 x)).length) /\ Nw w wc)
 case first =>
  as_aux_lemma =>
   rcases M.out.info with ⟨e, hv⟩ | ⟨y2, b2, e, hv, hy⟩ <;> (injection hv with hv; subst hv)
   · go_wp2
     go_meet
     case rel => exact ⟨s3, rfl, hid (by unfold L4; rw [e, map_nil, append_nil]; exact HS3.out), n3⟩
   obtain ⟨dy, fy⟩ := qEg hy
   have d9 := n3.cell dy
   have el : (jt (x.info.map .li)).length = (jt [.li y2]).length := by rw [e]; rfl
   obtain ⟨nb, hnb⟩ : ∃ n : Nat, n = (Ln.body (.li y2)).length := ⟨_, rfl⟩
   have bnb : nb <= 140737488355328 := by rw [hnb]; exact (by have h9 := HL.out; have h0 := qBc (.li y2); omega)
   have KY : Hid (∀ w1, Nw w w1 -> Calls prog 105 #[.string y2] w1 (qBi nb w1)) := hid (by rw [hnb]; exact fun w1 hn => qRc y2 w1)
   have Hnb := hid hnb
   clear hnb
   go_wp2_with (go_at_call 105; (with_reducible refine (KY.out _ n3).mono ?_); rintro e W99 ⟨rfl, hq99⟩; have n99 := n3.trans hq99)
   go_meet
   case rel => exact ⟨s3 + (4 + nb), by ((try simp (disch := omega) only [qB6]); go_num), hid (by unfold L4; rw [e]; exact szs HS3.out Hnb.out), n99⟩
 as_aux_lemma =>
  obtain ⟨s4, rfl, HS4, n4⟩ := hcut
  have bS4 : s4 <= 140737488355328 := by rw [HS4.out]; have h9 := HL.out; simp only [qD9, qAl, qA7, length_append, length_nil]; omega
  clear n3 HS3 bS3 d3_8
  have d4_9 := (HD.out.nw n4).cell 9 rfl
  go_upto_if 62 with fail
  go_cut [2] from 63 to 71 (fun v2 wc => ∃ n : Nat, v2 = .int .i64 (n : Int) /\ Hid (n = (jt (L5 x)).length) /\ Nw w wc)
  case first =>
   as_aux_lemma =>
    rcases M.out.uri with ⟨e, hv⟩ | ⟨y2, b2, e, hv, hy⟩ <;> (injection hv with hv; subst hv)
    · go_wp2
      go_meet
      case rel => exact ⟨s4, rfl, hid (by unfold L5; rw [e, map_nil, append_nil]; exact HS4.out), n4⟩
    obtain ⟨dy, fy⟩ := qEg hy
    have d9 := n4.cell dy
    have el : (jt (x.uri.map .lu)).length = (jt [.lu y2]).length := by rw [e]; rfl
    obtain ⟨nb, hnb⟩ : ∃ n : Nat, n = (Ln.body (.lu y2)).length := ⟨_, rfl⟩
    have bnb : nb <= 140737488355328 := by rw [hnb]; have h9 := HL.out; have h0 := qBc (.lu y2); omega
    have enb : (y2.size : Int) = (nb : Int) := by rw [hnb]; unfold Ln.body; rw [qAf]
    have Hnb := hid hnb
    clear hnb
    go_wp2_with (go_at_call 91; (with_reducible refine (qRa y2 b2 _ d9).mono ?_); rintro r W99 ⟨rfl, hww⟩; have hww := hww.symm; subst hww; have n99 := n4)
    try rw [enb]
    go_meet
    case rel => exact ⟨s4 + (4 + nb), by ((try simp (disch := omega) only [qB6]); go_num), hid (by unfold L5; rw [e]; exact szs HS4.out Hnb.out), n99⟩
  as_aux_lemma =>
   obtain ⟨s5, rfl, HS5, n5⟩ := hcut
   have bS5 : s5 <= 140737488355328 := by rw [HS5.out]; have h9 := HL.out; simp only [qD9, qAl, qA7, length_append, length_nil]; omega
   clear n4 HS4 bS4 d4_9
   have d5_10 := (HD.out.nw n5).cell 10 rfl
   go_upto_if 76 with fail
   go_cut [2] from 77 to 86 (fun v2 wc => ∃ n : Nat, v2 = .int .i64 (n : Int) /\ Hid (n = (jt (L6 x)).length) /\ Nw w wc)
   case first =>
    as_aux_lemma =>
     rcases M.out.email with ⟨e, hv⟩ | ⟨y2, b2, e, hv, hy⟩ <;> (injection hv with hv; subst hv)
     · go_wp2
       go_meet
       case rel => exact ⟨s5, rfl, hid (by unfold L6; rw [e, map_nil, append_nil]; exact HS5.out), n5⟩
     obtain ⟨dy, fy⟩ := qEg hy
     have d9 := n5.cell dy
     have el : (jt (x.email.map .le)).length = (jt [.le y2]).length := by rw [e]; rfl
     obtain ⟨nb, hnb⟩ : ∃ n : Nat, n = (Ln.body (.le y2)).length := ⟨_, rfl⟩
     have bnb : nb <= 140737488355328 := by rw [hnb]; exact (by have h9 := HL.out; have h0 := qBc (.le y2); omega)
     have KY : Hid (∀ w1, Nw w w1 -> Calls prog 106 #[.string y2] w1 (qBi nb w1)) := hid (by rw [hnb]; exact fun w1 hn => sz_mail y2 w1)
     have Hnb := hid hnb
     clear hnb
     go_wp2_with (go_at_call 106; (with_reducible refine (KY.out _ n5).mono ?_); rintro e W99 ⟨rfl, hq99⟩; have n99 := n5.trans hq99)
     go_meet
     case rel => exact ⟨s5 + (4 + nb), by ((try simp (disch := omega) only [qB6]); go_num), hid (by unfold L6; rw [e]; exact szs HS5.out Hnb.out), n99⟩
   as_aux_lemma =>
    obtain ⟨s6, rfl, HS6, n6⟩ := hcut
    have bS6 : s6 <= 140737488355328 := by rw [HS6.out]; have h9 := HL.out; simp only [qD9, qAl, qA7, length_append, length_nil]; omega
    clear n5 HS5 bS5 d5_10
    have d6_11 := (HD.out.nw n6).cell 11 rfl
    go_upto_if 91 with fail
    go_cut [2] from 92 to 101 (fun v2 wc => ∃ n : Nat, v2 = .int .i64 (n : Int) /\ Hid (n = (jt (L7 x)).length) /\ Nw w wc)
    case first =>
     as_aux_lemma =>
      rcases M.out.phone with ⟨e, hv⟩ | ⟨y2, b2, e, hv, hy⟩ <;> (injection hv with hv; subst hv)
      · go_wp2
        go_meet
        case rel => exact ⟨s6, rfl, hid (by unfold L7; rw [e, map_nil, append_nil]; exact HS6.out), n6⟩
      obtain ⟨dy, fy⟩ := qEg hy
      have d9 := n6.cell dy
      have el : (jt (x.phone.map .lp)).length = (jt [.lp y2]).length := by rw [e]; rfl
      obtain ⟨nb, hnb⟩ : ∃ n : Nat, n = (Ln.body (.lp y2)).length := ⟨_, rfl⟩
      have bnb : nb <= 140737488355328 := by rw [hnb]; exact (by have h9 := HL.out; have h0 := qBc (.lp y2); omega)
      have KY : Hid (∀ w1, Nw w w1 -> Calls prog 107 #[.string y2] w1 (qBi nb w1)) := hid (by rw [hnb]; exact fun w1 hn => sz_phone y2 w1)
      have Hnb := hid hnb
      clear hnb
      go_wp2_with (go_at_call 107; (with_reducible refine (KY.out _ n6).mono ?_); rintro e W99 ⟨rfl, hq99⟩; have n99 := n6.trans hq99)
      go_meet
      case rel => exact ⟨s6 + (4 + nb), by ((try simp (disch := omega) only [qB6]); go_num), hid (by unfold L7; rw [e]; exact szs HS6.out Hnb.out), n99⟩
    as_aux_lemma =>
     obtain ⟨s7, rfl, HS7, n7⟩ := hcut
     have bS7 : s7 <= 140737488355328 := by rw [HS7.out]; have h9 := HL.out; simp only [qD9, qAl, qA7, length_append, length_nil]; omega
     clear n6 HS6 bS6 d6_11
     have d7_12 := (HD.out.nw n7).cell 12 rfl
     go_upto_if 106 with fail
     go_cut [2] from 107 to 116 (fun v2 wc => ∃ n : Nat, v2 = .int .i64 (n : Int) /\ Hid (n = (jt (L8 x)).length) /\ Nw w wc)
     case first =>
      as_aux_lemma =>
       rcases M.out.conn with ⟨e, hv⟩ | ⟨y2, b2, e, hv, hy⟩ <;> (injection hv with hv; subst hv)
       · go_wp2
         go_meet
         case rel => exact ⟨s7, rfl, hid (by unfold L8; rw [e, map_nil, append_nil]; exact HS7.out), n7⟩
       obtain ⟨cs, ⟨p1, rfl, f1, f2, hp1⟩, hc⟩ := hy 0 y2 rfl
       have d9 := n7.cell (hc 0 _ rfl)
       have d10 := n7.cell (hc 1 _ rfl)
       have d11 := n7.cell (hc 2 _ rfl)
       simp only [Nat.zero_mul, Nat.zero_add, Nat.add_zero] at d9 d10 d11
       have el : (jt (x.conn.map .lc)).length = (jt [.lc y2]).length := by rw [e]; rfl
       obtain ⟨nb, hnb⟩ : ∃ n : Nat, n = (Ln.body (.lc y2)).length := ⟨_, rfl⟩
       have bnb : nb <= 140737488355328 := by rw [hnb]; exact (by have h9 := HL.out; have h0 := qBc (.lc y2); omega)
       have KY : Hid (∀ w1, Nw w w1 -> Calls prog 108 #[.agg #[.string y2.net, .string y2.addr, p1]] w1 (qBi nb w1)) := hid (by rw [hnb]; exact fun w1 hn => sz_con y2 p1 w w1 hp1 hn (HOK.out.con y2 (by rw [e]; exact List.mem_cons_self)) (Nat.le_trans (show (Ln.body (.lc y2)).length <= 140737488355328 by have h9 := HL.out; have h0 := qBc (.lc y2); omega) (by decide)))
       have Hnb := hid hnb
       clear hnb
       go_wp2_with (go_at_call 108; (with_reducible refine (KY.out _ n7).mono ?_); rintro e W99 ⟨rfl, hq99⟩; have n99 := n7.trans hq99)
       go_meet
       case rel => exact ⟨s7 + (4 + nb), by ((try simp (disch := omega) only [qB6]); go_num), hid (by unfold L8; rw [e]; exact szs HS7.out Hnb.out), n99⟩
     as_aux_lemma =>
      obtain ⟨s8, rfl, HS8, n8⟩ := hcut
      have bS8 : s8 <= 140737488355328 := by rw [HS8.out]; have h9 := HL.out; simp only [qD9, qAl, qA7, length_append, length_nil]; omega
      clear n7 HS7 bS7 d7_12
      have d8_13 := (HD.out.nw n8).cell 13 rfl
      obtain ⟨Al, nl, hvl⟩ := Ty.Sl_form M.out.bws
      subst hvl
      apply_assumption
      apply wp_seq_k
      intro Kn hKn
      go_cut [2] from 117 to 131 (fun v2 wc => ∃ n : Nat, v2 = .int .i64 (n : Int) /\ Hid (n = (jt (L9 x)).length) /\ Nw w wc)
      case first =>
       as_aux_lemma =>
        have hmx := M.out.bws.1
        go_wp2
        go_loopw [2, 122] (fun v2 i wr => ∃ kk n : Nat, kk <= x.bws.length /\ i = .int .i64 kk /\ v2 = .int .i64 (n : Int) /\ Hid (n = (jt (L8 x ++ (x.bws.take kk).map Ln.lb)).length) /\ Nw w wr) (fun _ i _ => x.bws.length - (intOf i).toNat)
        case atStart => exact ⟨0, s8, Nat.zero_le _, rfl, rfl, hid (by rw [take_zero, map_nil, append_nil]; exact HS8.out), n8⟩
        obtain ⟨kk, nk, hk, rfl, rfl, HK, hnw⟩ := hrel
        by_cases hlt : kk < x.bws.length
        · obtain ⟨b2, o, hAl, ha⟩ := Ty.Sl_at M.out.bws kk hlt
          subst hAl
          obtain ⟨cs, hrl, hx⟩ := ha kk _ (List.getElem?_eq_getElem hlt)
          obtain ⟨y2, hy⟩ : ∃ yy, yy = x.bws[kk] := ⟨_, rfl⟩
          rw [<- hy] at hrl
          obtain ⟨rfl, hwf⟩ := hrl
          have e9_0 := hnw.cell (hx 0 _ rfl); have e9_1 := hnw.cell (hx 1 _ rfl); have e9_2 := hnw.cell (hx 2 _ rfl)
          simp only [qBx, Ty.flat, Nat.add_zero] at e9_0 e9_1 e9_2
          have k1 : (0 : Int) <= (kk : Int) := by omega
          have k2 : (kk : Int) < (x.bws.length : Int) := by omega
          have k3 : (kk : Int) <= (x.bws.length : Int) := by omega
          have hsn := qEo Ln.lb hlt
          rw [<- hy] at hsn
          have hle := qEn Ln.lb x.bws (kk + 1)
          rw [hsn, qAl, length_append] at hle
          have bnk : nk <= 140737488355328 := by rw [HK.out]; have h9 := HL.out; simp only [qD9, qAl, qA7, length_append, length_nil]; omega
          have HSN2 := hid hsn
          have hna := hnw.alloc (.cells #[.bool y2.x, .string y2.ty, .int .u64 y2.n] 198)
          obtain ⟨nb, hnb⟩ : ∃ n : Nat, n = (Ln.body (.lb y2)).length := ⟨_, rfl⟩
          have bnb : nb <= 140737488355328 := by rw [hnb]; exact (by have h9 := HL.out; have h0 := qBc (.lb y2); omega)
          have KY : Hid (∀ w1, Nw w w1 -> Calls prog 109 #[.agg #[.bool y2.x, .string y2.ty, .int .u64 y2.n]] w1 (qBi nb w1)) := hid (by rw [hnb]; exact fun w1 hn => sz_bw y2 w1 hwf.2 (Nat.le_trans (show (Ln.body (.lb y2)).length <= 140737488355328 by have h9 := HL.out; have h0 := qBc (.lb y2); omega) (by decide)))
          have Hnb := hid hnb
          clear hnb
          clear hx ha hy hsn hle
          go_wp2_with (go_at_call 109; (with_reducible refine (KY.out _ hna).mono ?_); rintro e W99 ⟨rfl, hq99⟩; have n99 := hna.trans hq99)
          exact ⟨⟨kk + 1, nk + (4 + nb), by omega, by go_num, by ((try simp (disch := omega) only [qB6]); go_num), hid (by rw [HSN2.out, <- append_assoc]; exact szs HK.out Hnb.out), n99⟩, by simp [intOf]; omega⟩
        rw [show x.bws.take kk = x.bws from take_of_length_le (by omega)] at HK
        go_wp2
        go_meet
        case rel => exact ⟨nk, rfl, HK, hnw⟩
      as_aux_lemma =>
       obtain ⟨s9, rfl, HS9, n9⟩ := hcut
       have bS9 : s9 <= 140737488355328 := by rw [HS9.out]; have h9 := HL.out; simp only [qD9, qAl, qA7, length_append, length_nil]; omega
       clear n8 HS8 bS8 d8_13
       have d9_14 := (HD.out.nw n9).cell 14 rfl
       obtain ⟨Al, nl, hvl⟩ := Ty.Sl_form M.out.times
       subst hvl
       apply_assumption
       apply wp_seq_k
       intro Kn hKn
       go_cut [2] from 132 to 160 (fun v2 wc => ∃ n : Nat, v2 = .int .i64 (n : Int) /\ Hid (n = (jt (L10 x)).length) /\ Nw w wc)
       case first =>
        as_aux_lemma =>
         have hmx := M.out.times.1
         go_wp2
         go_loopw [2, 137] (fun v2 i wr => ∃ k n : Nat, k <= x.times.length /\ i = .int .i64 k /\ v2 = .int .i64 (n : Int) /\ Hid (n = (jt (L9 x ++ (x.times.take k).flatMap qBl)).length) /\ Nw w wr) (fun _ i _ => x.times.length - (intOf i).toNat)
         case atStart => exact ⟨0, s9, Nat.zero_le _, rfl, rfl, hid (by rw [take_zero, List.flatMap_nil, append_nil]; exact HS9.out), n9⟩
         obtain ⟨k, nk, hk, rfl, rfl, HK, hnw⟩ := hrel
         by_cases hlt : k < x.times.length
         · obtain ⟨b, o, hAl, ha⟩ := Ty.Sl_at M.out.times k hlt
           subst hAl
           obtain ⟨cs, hrl, hx⟩ := ha k _ (List.getElem?_eq_getElem hlt)
           obtain ⟨y, hy⟩ : ∃ y, y = x.times[k] := ⟨_, rfl⟩
           rw [<- hy] at hrl
           obtain ⟨p1, rfl, f1, f2, hrs⟩ := hrl
           obtain ⟨Ar, nr, rfl⟩ := Ty.Sl_form hrs
           have hmr := hrs.1
           have e9_0 := hnw.cell (hx 0 _ rfl)
           have e9_1 := hnw.cell (hx 1 _ rfl)
           have e9_2 := hnw.cell (hx 2 _ rfl)
           simp only [qCc, Nat.add_zero] at e9_0 e9_1 e9_2
           have k1 : (0 : Int) <= (k : Int) := by omega
           have k2 : (k : Int) < (x.times.length : Int) := by omega
           have k3 : (k : Int) <= (x.times.length : Int) := by omega
           have hsn := qEi qBl hlt
           rw [<- hy] at hsn
           have hle := qEh qBl x.times (k + 1)
           rw [hsn, qAl, length_append] at hle
           have e0 : qBl y = [.lt y] ++ y.reps.map .lr := rfl
           rw [e0, qAl, length_append] at hle
           have bnk : nk <= 140737488355328 := by rw [HK.out]; have h9 := HL.out; simp only [qD9, qAl, qA7, length_append, length_nil]; omega
           have HSN := hid hsn
           have HLE := hid hle
           obtain ⟨nb, hnb⟩ : ∃ n : Nat, n = (Ln.body (.lt y)).length := ⟨_, rfl⟩
           have bnb : nb <= 140737488355328 := by rw [hnb]; exact (by have h9 := HL.out; have h0 := qBc (.lt y); omega)
           have KY : Hid (∀ w1, Nw w w1 -> Calls prog 110 #[.agg #[.int .u64 y.start, .int .u64 y.stop]] w1 (qBi nb w1)) := hid (by rw [hnb]; exact fun w1 hn => sz_tim y.start y.stop w1 f1 f2)
           have Hnb := hid hnb
           clear hnb
           obtain ⟨g8, w8, hB8, hs8, hge8, a1, a2⟩ := qEm wr [.int .u64 y.start, .int .u64 y.stop, .slice Ar y.reps.length nr] 177
           have n8 := hnw.trans hs8
           have q8_0 := hB8.cell 0 rfl
           have q8_1 := hB8.cell 1 rfl
           have q8_2 := hB8.cell 2 rfl
           have HRS := hid hrs
           clear hx ha hy hsn hle e0 hrs
           go_upto_region 22 with fail
           rw [<- a1, <- a2]
           clear a1 a2
           go_wp2_with (go_at_call 110; (with_reducible refine (KY.out _ n8).mono ?_); rintro e W99 ⟨rfl, hq99⟩; have n99 := n8.trans hq99; have q9_2 := (hB8.nw hq99).cell 2 rfl)
           have hy0 := szs HK.out Hnb.out
           have by0 : nk + (4 + nb) <= 140737488355328 := by rw [hy0]; have h9 := HL.out; have h8 := HLE.out; simp only [qD9, qAl, qA7, length_append, length_nil]; omega
           have HY0 := hid hy0
           clear hy0
           go_loopw [2, 150] (fun v2 i wr2 => ∃ j n : Nat, j <= y.reps.length /\ i = .int .i64 j /\ v2 = .int .i64 (n : Int) /\ Hid (n = (jt (L9 x ++ (x.times.take k).flatMap qBl ++ [Ln.lt y] ++ (y.reps.take j).map Ln.lr)).length) /\ Nw w wr2) (fun _ i _ => y.reps.length - (intOf i).toNat)
           case atStart => exact ⟨0, nk + (4 + nb), Nat.zero_le _, rfl, by ((try simp (disch := omega) only [qB6]); go_num), hid (by rw [take_zero, map_nil, append_nil]; exact HY0.out), n99⟩
           obtain ⟨j, nj, hj, rfl, rfl, HJ, hnj⟩ := hrel
           by_cases hltj : j < y.reps.length
           · obtain ⟨b2, o2, hAr, har⟩ := Ty.Sl_at HRS.out j hltj
             subst hAr
             obtain ⟨cs2, hrl2, hx2⟩ := har j _ (List.getElem?_eq_getElem hltj)
             obtain ⟨r, hr⟩ : ∃ r, r = y.reps[j] := ⟨_, rfl⟩
             rw [<- hr] at hrl2
             obtain ⟨p2, rfl, f3, f4, hof⟩ := hrl2
             obtain ⟨Ao, no, rfl⟩ := Ty.Sl_form hof
             have t9_0 := hnj.cell (hx2 0 _ rfl)
             have t9_1 := hnj.cell (hx2 1 _ rfl)
             have t9_2 := hnj.cell (hx2 2 _ rfl)
             simp only [qDc, Nat.add_zero] at t9_0 t9_1 t9_2
             have j1 : (0 : Int) <= (j : Int) := by omega
             have j2 : (j : Int) < (y.reps.length : Int) := by omega
             have j3 : (j : Int) <= (y.reps.length : Int) := by omega
             have hsn2 := qEo Ln.lr hltj
             rw [<- hr] at hsn2
             have hle2 := qEn Ln.lr y.reps (j + 1)
             rw [hsn2, qAl, length_append] at hle2
             have bnj : nj <= 140737488355328 := by rw [HJ.out]; have h9 := HL.out; have h8 := HLE.out; simp only [qD9, qAl, qA7, length_append, length_nil]; omega
             have HSN2 := hid hsn2
             obtain ⟨nr2, hnr2⟩ : ∃ n : Nat, n = (Ln.body (.lr r)).length := ⟨_, rfl⟩
             have bnr2 : nr2 <= 140737488355328 := by rw [hnr2]; exact (by have h9 := HL.out; have h8 := HLE.out; have h0 := qBc (.lr r); omega)
             have KR : Hid (∀ w1, Nw w w1 -> Calls prog 111 #[.agg #[.int .i64 r.ivl, .int .i64 r.dur, .slice Ao r.offs.length no]] w1 (qBi nr2 w1)) := hid (by rw [hnr2]; exact fun w1 hn => sz_rep r _ w w1 hof hn f3 f4 (Nat.le_trans (show (Ln.body (.lr r)).length <= 140737488355328 by have h9 := HL.out; have h8 := HLE.out; have h0 := qBc (.lr r); omega) (by decide)))
             have Hnr2 := hid hnr2
             clear hnr2
             have hnb := hnj.alloc (.cells #[.int .i64 r.ivl, .int .i64 r.dur, .slice Ao r.offs.length no] 178)
             clear hx2 har hr hsn2 hle2 hof
             go_wp2_with (go_at_call 111; (with_reducible refine (KR.out _ hnb).mono ?_); rintro e W98 ⟨rfl, hq98⟩; have n98 := hnb.trans hq98)
             exact ⟨⟨j + 1, nj + (4 + nr2), by omega, by go_num, by ((try simp (disch := omega) only [qB6]); go_num), hid (by rw [HSN2.out, <- append_assoc]; exact szs HJ.out Hnr2.out), n98⟩, by simp [intOf]; omega⟩
           rw [show y.reps.take j = y.reps from take_of_length_le (by omega)] at HJ
           go_wp2
           exact ⟨⟨k + 1, nj, by omega, by go_num, rfl, hid (by rw [HSN.out, <- append_assoc]; simpa only [qBl, append_assoc, List.cons_append, nil_append] using HJ.out), hnj⟩, by simp [intOf]; omega⟩
         rw [take_of_length_le (by omega)] at HK
         go_wp2
         go_meet
         case rel => exact ⟨nk, rfl, HK, hnw⟩
       as_aux_lemma =>
        obtain ⟨s10, rfl, HS10, n10⟩ := hcut
        have bS10 : s10 <= 140737488355328 := by rw [HS10.out]; have h9 := HL.out; simp only [qD9, qAl, qA7, length_append, length_nil]; omega
        clear n9 HS9 bS9 d9_14
        have d10_15 := (HD.out.nw n10).cell 15 rfl
        obtain ⟨Al, nl, hvl⟩ := Ty.Sl_form M.out.zones
        subst hvl
        go_upto_if 166 with fail
        go_cut [2] from 166 to 187 (fun v2 wc => ∃ n : Nat, v2 = .int .i64 (n : Int) /\ Hid (n = (jt (L11 x)).length) /\ Nw w wc)
        case first =>
         as_aux_lemma =>
          by_cases hz0 : x.zones.length = 0
          · have hz1 : ¬ (0 : Int) < (x.zones.length : Int) := by omega
            have HZ0 := hid hz0
            clear hz0
            go_wp2
            go_meet
            case rel => exact ⟨s10, rfl, hid (by unfold L11; rw [if_pos HZ0.out, append_nil]; exact HS10.out), n10⟩
          have hz1 : (0 : Int) < (x.zones.length : Int) := by omega
          have hmx := M.out.zones.1
          have el : (jt (if x.zones.length = 0 then [] else [Ln.lz x.zones])).length = (zj x.zones).length + 4 := by rw [if_neg hz0]; exact jt_lz _
          have hl9 : s10 + (zj x.zones).length + 600 <= 140737488355328 := by rw [HS10.out]; have h9 := HL.out; simp only [qD9, qAl, qA7, length_append, length_nil]; omega
          have HL9 := hid hl9
          have HZ0 := hid hz0
          clear hl9 el hz0
          go_wp2
          simp only [show 0 < x.zones.length by omega, decide_true]
          go_loopw [2, 174] (fun v2 i wr => ∃ k n : Nat, k <= x.zones.length /\ i = .int .i64 k /\ v2 = .int .i64 ((s10 + 4 + n : Nat) : Int) /\ Hid (n = (zj (x.zones.take k)).length) /\ Nw w wr) (fun _ i _ => x.zones.length - (intOf i).toNat)
          case atStart => exact ⟨0, 0, Nat.zero_le _, rfl, by ((try simp (disch := omega) only [qB6]); go_num), hid rfl, n10⟩
          obtain ⟨k, nk, hk, rfl, rfl, HK, hnw⟩ := hrel
          by_cases hlt : k < x.zones.length
          · obtain ⟨b, o, hAl, ha⟩ := Ty.Sl_at M.out.zones k hlt
            subst hAl
            obtain ⟨cs, hrl, hx⟩ := ha k _ (List.getElem?_eq_getElem hlt)
            obtain ⟨y, hy⟩ : ∃ y, y = x.zones[k] := ⟨_, rfl⟩
            rw [<- hy] at hrl
            obtain ⟨rfl, f1, f2⟩ := hrl
            have e9_0 := hnw.cell (hx 0 _ rfl)
            have e9_1 := hnw.cell (hx 1 _ rfl)
            simp only [qDt, Ty.flat, Nat.add_zero] at e9_0 e9_1
            have k1 : (0 : Int) <= (k : Int) := by omega
            have k2 : (k : Int) < (x.zones.length : Int) := by omega
            have k3 : (k : Int) <= (x.zones.length : Int) := by omega
            have hsn := congrArg List.length (qLw hlt)
            rw [<- hy, length_append] at hsn
            have hle := zj_le (zs := x.zones) (k := k + 1) (by omega)
            obtain ⟨nb, hnb⟩ : ∃ n : Nat, n = ((Lib.decDigits (Int.toNat y.time)) ++ (32 :: (Lib.itoa y.off))).length := ⟨_, rfl⟩
            have KY : Hid (∀ w1, Nw w w1 -> Calls prog 112 #[.agg #[.int .u64 y.time, .int .i64 y.off]] w1 (qBi nb w1)) := hid (by rw [hnb]; exact fun w1 hn => sz_zon y.time y.off w1 f1 f2)
            rw [<- hnb] at hsn
            obtain ⟨nk1, hnk1⟩ : ∃ n : Nat, n = (zj (x.zones.take (k + 1))).length := ⟨_, rfl⟩
            rw [<- hnk1] at hsn hle
            have hb1 : s10 + nk1 + 600 <= 140737488355328 := by have := HL9.out; omega
            have HN1 := hid hnk1
            obtain ⟨g12, w84, hB12, hs84, hge12, a1, a2⟩ := qEm wr [.int .u64 y.time, .int .i64 y.off] 181
            have n84 := hnw.trans hs84
            have q84_0 := hB12.cell 0 rfl
            have q84_1 := hB12.cell 1 rfl
            clear hx ha hy hle hnb hnk1
            go_upto_region 34 with fail
            rw [<- a1, <- a2]
            clear a1 a2
            by_cases hk0 : k = 0
            · have hk1 : ¬ (0 : Int) < (k : Int) := by omega
              have e0 : nk = 0 := by rw [HK.out, hk0]; rfl
              rw [if_pos hk0, length_nil] at hsn
              clear hk0 HK
              go_wp2_with (go_at_call 112; (with_reducible refine (KY.out _ n84).mono ?_); rintro e W99 ⟨rfl, hq99⟩; have n99 := n84.trans hq99)
              exact ⟨⟨k + 1, nk1, by omega, by go_num, by ((try simp (disch := omega) only [qB6]); go_num), HN1, n99⟩, by simp [intOf]; omega⟩
            have hk1 : (0 : Int) < (k : Int) := by omega
            rw [if_neg hk0, length_append, <- HK.out, List.length_singleton] at hsn
            clear hk0 HK
            go_wp2_with (go_at_call 112; (with_reducible refine (KY.out _ n84).mono ?_); rintro e W99 ⟨rfl, hq99⟩; have n99 := n84.trans hq99)
            exact ⟨⟨k + 1, nk1, by omega, by go_num, by ((try simp (disch := omega) only [qB6]); go_num), HN1, n99⟩, by simp [intOf]; omega⟩
          rw [take_of_length_le (by omega)] at HK
          go_wp2
          go_meet
          case rel => exact ⟨s10 + 4 + nk, rfl, hid (by unfold L11; rw [if_neg HZ0.out, qAl, length_append, jt_lz, <- HS10.out, <- HK.out]; omega), hnw⟩
        as_aux_lemma =>
         obtain ⟨s11, rfl, HS11, n11⟩ := hcut
         have bS11 : s11 <= 140737488355328 := by rw [HS11.out]; have h9 := HL.out; simp only [qD9, qAl, qA7, length_append, length_nil]; omega
         clear n10 HS10 bS10 d10_15
         have d11_16 := (HD.out.nw n11).cell 16 rfl
         go_upto_if 192 with fail
         go_cut [2] from 193 to 202 (fun v2 wc => ∃ n : Nat, v2 = .int .i64 (n : Int) /\ Hid (n = (jt (L12 x)).length) /\ Nw w wc)
         case first =>
          as_aux_lemma =>
           rcases M.out.key with ⟨e, hv⟩ | ⟨y2, b2, e, hv, hy⟩ <;> (injection hv with hv; subst hv)
           · go_wp2
             go_meet
             case rel => exact ⟨s11, rfl, hid (by unfold L12; rw [e, map_nil, append_nil]; exact HS11.out), n11⟩
           obtain ⟨dy, fy⟩ := qEg hy
           have d9 := n11.cell dy
           have el : (jt (x.key.map .lk)).length = (jt [.lk y2]).length := by rw [e]; rfl
           obtain ⟨nb, hnb⟩ : ∃ n : Nat, n = (Ln.body (.lk y2)).length := ⟨_, rfl⟩
           have bnb : nb <= 140737488355328 := by rw [hnb]; exact (by have h9 := HL.out; have h0 := qBc (.lk y2); omega)
           have KY : Hid (∀ w1, Nw w w1 -> Calls prog 113 #[.string y2] w1 (qBi nb w1)) := hid (by rw [hnb]; exact fun w1 hn => sz_key y2 w1)
           have Hnb := hid hnb
           clear hnb
           go_wp2_with (go_at_call 113; (with_reducible refine (KY.out _ n11).mono ?_); rintro e W99 ⟨rfl, hq99⟩; have n99 := n11.trans hq99)
           go_meet
           case rel => exact ⟨s11 + (4 + nb), by ((try simp (disch := omega) only [qB6]); go_num), hid (by unfold L12; rw [e]; exact szs HS11.out Hnb.out), n99⟩
         as_aux_lemma =>
          obtain ⟨s12, rfl, HS12, n12⟩ := hcut
          have bS12 : s12 <= 140737488355328 := by rw [HS12.out]; have h9 := HL.out; simp only [qD9, qAl, qA7, length_append, length_nil]; omega
          clear n11 HS11 bS11 d11_16
          have d12_17 := (HD.out.nw n12).cell 17 rfl
          obtain ⟨Al, nl, hvl⟩ := Ty.Sl_form M.out.atts
          subst hvl
          apply_assumption
          apply wp_seq_k
          intro Kn hKn
          go_cut [2] from 203 to 217 (fun v2 wc => ∃ n : Nat, v2 = .int .i64 (n : Int) /\ Hid (n = (jt (L13 x)).length) /\ Nw w wc)
          case first =>
           as_aux_lemma =>
            have hmx := M.out.atts.1
            go_wp2
            go_loopw [2, 208] (fun v2 i wr => ∃ kk n : Nat, kk <= x.atts.length /\ i = .int .i64 kk /\ v2 = .int .i64 (n : Int) /\ Hid (n = (jt (L12 x ++ (x.atts.take kk).map Ln.la)).length) /\ Nw w wr) (fun _ i _ => x.atts.length - (intOf i).toNat)
            case atStart => exact ⟨0, s12, Nat.zero_le _, rfl, rfl, hid (by rw [take_zero, map_nil, append_nil]; exact HS12.out), n12⟩
            obtain ⟨kk, nk, hk, rfl, rfl, HK, hnw⟩ := hrel
            by_cases hlt : kk < x.atts.length
            · obtain ⟨b2, o, hAl, ha⟩ := Ty.Sl_at M.out.atts kk hlt
              subst hAl
              obtain ⟨cs, hrl, hx⟩ := ha kk _ (List.getElem?_eq_getElem hlt)
              obtain ⟨y2, hy⟩ : ∃ yy, yy = x.atts[kk] := ⟨_, rfl⟩
              rw [<- hy] at hrl
              obtain ⟨rfl, hwf⟩ := hrl
              have e9_0 := hnw.cell (hx 0 _ rfl); have e9_1 := hnw.cell (hx 1 _ rfl)
              simp only [qBy, Ty.flat, Nat.add_zero] at e9_0 e9_1
              have k1 : (0 : Int) <= (kk : Int) := by omega
              have k2 : (kk : Int) < (x.atts.length : Int) := by omega
              have k3 : (kk : Int) <= (x.atts.length : Int) := by omega
              have hsn := qEo Ln.la hlt
              rw [<- hy] at hsn
              have hle := qEn Ln.la x.atts (kk + 1)
              rw [hsn, qAl, length_append] at hle
              have bnk : nk <= 140737488355328 := by rw [HK.out]; have h9 := HL.out; simp only [qD9, qAl, qA7, length_append, length_nil]; omega
              have HSN2 := hid hsn
              have hna := hnw.alloc (.cells #[.string y2.key, .string y2.val] 199)
              obtain ⟨nb, hnb⟩ : ∃ n : Nat, n = (Ln.body (.la y2)).length := ⟨_, rfl⟩
              have bnb : nb <= 140737488355328 := by rw [hnb]; exact (by have h9 := HL.out; have h0 := qBc (.la y2); omega)
              have KY : Hid (∀ w1, Nw w w1 -> Calls prog 114 #[.agg #[.string y2.key, .string y2.val]] w1 (qBi nb w1)) := hid (by rw [hnb]; exact fun w1 hn => sz_att y2 w1 (Nat.le_trans (show (Ln.body (.la y2)).length <= 140737488355328 by have h9 := HL.out; have h0 := qBc (.la y2); omega) (by decide)))
              have Hnb := hid hnb
              clear hnb
              clear hx ha hy hsn hle
              go_wp2_with (go_at_call 114; (with_reducible refine (KY.out _ hna).mono ?_); rintro e W99 ⟨rfl, hq99⟩; have n99 := hna.trans hq99)
              exact ⟨⟨kk + 1, nk + (4 + nb), by omega, by go_num, by ((try simp (disch := omega) only [qB6]); go_num), hid (by rw [HSN2.out, <- append_assoc]; exact szs HK.out Hnb.out), n99⟩, by simp [intOf]; omega⟩
            rw [show x.atts.take kk = x.atts from take_of_length_le (by omega)] at HK
            go_wp2
            go_meet
            case rel => exact ⟨nk, rfl, HK, hnw⟩
          as_aux_lemma =>
           obtain ⟨s13, rfl, HS13, n13⟩ := hcut
           have bS13 : s13 <= 140737488355328 := by rw [HS13.out]; have h9 := HL.out; simp only [qD9, qAl, qA7, length_append, length_nil]; omega
           clear n12 HS12 bS12 d12_17
           have d13_18 := (HD.out.nw n13).cell 18 rfl
           obtain ⟨Al, nl, hvl⟩ := Ty.Sl_form M.out.media
           subst hvl
           apply_assumption
           apply wp_seq_k
           intro Kn hKn
           go_cut [2] from 218 to 310 (fun v2 wc => ∃ n : Nat, v2 = .int .i64 (n : Int) /\ Hid (n = (jt (L14 x)).length) /\ Nw w wc)
           case first =>
            as_aux_lemma =>
             have hmx := M.out.media.1
             go_wp2
             go_loopw [2, 223] (fun v2 i wr => ∃ k n : Nat, k <= x.media.length /\ i = .int .i64 k /\ v2 = .int .i64 (n : Int) /\ Hid (n = (jt (L13 x ++ (x.media.take k).flatMap qBn)).length) /\ Nw w wr) (fun _ i _ => x.media.length - (intOf i).toNat)
             case atStart => exact ⟨0, s13, Nat.zero_le _, rfl, rfl, hid (by rw [take_zero, List.flatMap_nil, append_nil]; exact HS13.out), n13⟩
             obtain ⟨k, nk, hk, rfl, rfl, HK, hnw⟩ := hrel
             by_cases hlt : k < x.media.length
             · obtain ⟨b, o, hAl, ha⟩ := Ty.Sl_at M.out.media k hlt
               subst hAl
               obtain ⟨cs, hrl, hx⟩ := ha k _ (List.getElem?_eq_getElem hlt)
               obtain ⟨y, hy⟩ : ∃ y, y = x.media[k] := ⟨_, rfl⟩
               have hym : y ∈ x.media := by rw [hy]; exact List.getElem_mem hlt
               rw [<- hy] at hrl
               obtain ⟨bm, rfl, hat⟩ := hrl
               have e9_0 := hnw.cell (hx 0 _ rfl)
               simp only [Ty.ptr, Ty.flat, Nat.mul_one, Nat.add_zero] at e9_0
               obtain ⟨cs2, ⟨u0, u1, u2, u3, u4, u5, u6, u7, rfl, mm⟩, hx2⟩ := hat 0 y rfl
               obtain ⟨a0, rfl⟩ := Ty.Pt_form mm.ports
               obtain ⟨A1, n1, rfl⟩ := Ty.Sl_form mm.protos
               obtain ⟨A2, n2, rfl⟩ := Ty.Sl_form mm.fmts
               obtain ⟨a3, rfl⟩ := Ty.Pt_form mm.title
               obtain ⟨a4, rfl⟩ := Ty.Pt_form mm.conn
               obtain ⟨a6, rfl⟩ := Ty.Pt_form mm.key
               have hxc : ∀ j u, [Value.string y.name, .int .i64 y.port, .pointer a0, .slice A1 y.protos.length n1, .slice A2 y.fmts.length n2, .pointer a3, .pointer a4, u5, .pointer a6, u7][j]? = some u -> w.cell? ⟨bm, j, none⟩ = some u := fun j u hu => by simpa using hx2 j u hu
               have HX := hid hxc
               have MY := hid mm
               have HOM := hid (HOK.out.med y hym)
               have k1 : (0 : Int) <= (k : Int) := by omega
               have k2 : (k : Int) < (x.media.length : Int) := by omega
               have k3 : (k : Int) <= (x.media.length : Int) := by omega
               have hsn := qEi qBn hlt
               rw [<- hy] at hsn
               have hle := qEh qBn x.media (k + 1)
               rw [hsn, qAl, length_append] at hle
               have e0 : qBn y = [.lm y] ++ (y.title.map .mi ++ (y.conn.map .mc ++ (y.bws.map .mb ++ (y.key.map .mkey ++ y.atts.map .ma)))) := rfl
               rw [e0] at hle
               simp only [qAl, length_append] at hle
               have bnk : nk <= 140737488355328 := by rw [HK.out]; have h9 := HL.out; simp only [qD9, qAl, qA7, length_append, length_nil]; omega
               have HSN := hid hsn
               have HLE := hid hle
               obtain ⟨nb, hnb⟩ : ∃ n : Nat, n = (Ln.body (.lm y)).length := ⟨_, rfl⟩
               have bnb : nb <= 140737488355328 := by rw [hnb]; exact (by have h9 := HL.out; have h7 := HLE.out; have h0 := qBc (.lm y); omega)
               have KM : Hid (∀ w1, Nw w w1 -> Calls prog 115 #[.agg #[.string y.name, .int .i64 y.port, .pointer a0, .slice A1 y.protos.length n1, .slice A2 y.fmts.length n2]] w1 (qBi nb w1)) := hid (by rw [hnb]; exact fun w1 hn => sz_med y _ _ _ w w1 MY.out.ports MY.out.protos MY.out.fmts hn MY.out.port HOM.out.1.1 HOM.out.1.2 HOM.out.2.1.1 HOM.out.2.1.2 (Nat.le_trans (show (Ln.body (.lm y)).length <= 140737488355328 by have h9 := HL.out; have h7 := HLE.out; have h0 := qBc (.lm y); omega) (by decide)))
               have Hnb := hid hnb
               clear hnb
               obtain ⟨W30, hW30⟩ : ∃ z, z = wr := ⟨_, rfl⟩
               rw [<- hW30] at hnw e9_0 ⊢
               clear hx ha hat hy hsn hle e0 hx2 hxc mm hW30
               have n30 := hnw
               have d30_0 := n30.cell (HX.out 0 _ rfl)
               have d30_1 := n30.cell (HX.out 1 _ rfl)
               have d30_2 := n30.cell (HX.out 2 _ rfl)
               have d30_3 := n30.cell (HX.out 3 _ rfl)
               have d30_4 := n30.cell (HX.out 4 _ rfl)
               clear hnw
               go_upto_if 239 with (go_at_call 115; (with_reducible refine (KM.out _ n30).mono ?_); rintro e W31 ⟨rfl, hq31⟩; have n31 := n30.trans hq31; have d31_5 := n31.cell (HX.out 5 _ rfl))
               have hS31 : nk + (4 + nb) = (jt (N1 x k y)).length := szs HK.out Hnb.out
               obtain ⟨s31, hs31⟩ : ∃ n : Nat, n = nk + (4 + nb) := ⟨_, rfl⟩
               rw [<- hs31] at hS31
               try simp (disch := omega) only [qB6]
               rw [show (nk : Int) + (4 + (nb : Int)) = (s31 : Int) by omega]
               have bS31 : s31 <= 140737488355328 := by rw [hS31]; have h9 := HL.out; have h7 := HLE.out; simp only [qD9, qAl, qA7, length_append, length_nil]; omega
               have HS31 := hid hS31
               clear hS31 hs31 KM HK bnk Hnb bnb d30_0 d30_1 d30_2 d30_3 d30_4 e9_0 hq31 n30
               go_cut [2] from 240 to 249 (fun v2 wc => ∃ n : Nat, v2 = .int .i64 (n : Int) /\ Hid (n = (jt (N2 x k y)).length) /\ Nw w wc)
               case first =>
                as_aux_lemma =>
                 rcases MY.out.title with ⟨e, hv⟩ | ⟨y2, b2, e, hv, hy⟩ <;> (injection hv with hv; subst hv)
                 · go_wp2
                   go_meet
                   case rel => exact ⟨s31, rfl, hid (by unfold N2; rw [e, map_nil, append_nil]; exact HS31.out), n31⟩
                 obtain ⟨dy, fy⟩ := qEg hy
                 have d9 := n31.cell dy
                 have el : (jt (y.title.map .mi)).length = (jt [.mi y2]).length := by rw [e]; rfl
                 obtain ⟨nb, hnb⟩ : ∃ n : Nat, n = (Ln.body (.mi y2)).length := ⟨_, rfl⟩
                 have bnb : nb <= 140737488355328 := by rw [hnb]; exact (by have h9 := HL.out; have h7 := HLE.out; have h0 := qBc (.mi y2); omega)
                 have KY : Hid (∀ w1, Nw w w1 -> Calls prog 105 #[.string y2] w1 (qBi nb w1)) := hid (by rw [hnb]; exact fun w1 hn => qRc y2 w1)
                 have Hnb := hid hnb
                 clear hnb
                 go_wp2_with (go_at_call 105; (with_reducible refine (KY.out _ n31).mono ?_); rintro e W99 ⟨rfl, hq99⟩; have n99 := n31.trans hq99)
                 go_meet
                 case rel => exact ⟨s31 + (4 + nb), by ((try simp (disch := omega) only [qB6]); go_num), hid (by unfold N2; rw [e]; exact szs HS31.out Hnb.out), n99⟩
               as_aux_lemma =>
                obtain ⟨s32, rfl, HS32, n32⟩ := hcut
                have bS32 : s32 <= 140737488355328 := by rw [HS32.out]; have h9 := HL.out; have h7 := HLE.out; simp only [qD9, qAl, qA7, length_append, length_nil]; omega
                clear n31 HS31 bS31 d31_5
                have d32_6 := n32.cell (HX.out 6 _ rfl)
                go_upto_if 254 with fail
                go_cut [2] from 255 to 264 (fun v2 wc => ∃ n : Nat, v2 = .int .i64 (n : Int) /\ Hid (n = (jt (N3 x k y)).length) /\ Nw w wc)
                case first =>
                 as_aux_lemma =>
                  rcases MY.out.conn with ⟨e, hv⟩ | ⟨y2, b2, e, hv, hy⟩ <;> (injection hv with hv; subst hv)
                  · go_wp2
                    go_meet
                    case rel => exact ⟨s32, rfl, hid (by unfold N3; rw [e, map_nil, append_nil]; exact HS32.out), n32⟩
                  obtain ⟨cs, ⟨p1, rfl, f1, f2, hp1⟩, hc⟩ := hy 0 y2 rfl
                  have d9 := n32.cell (hc 0 _ rfl)
                  have d10 := n32.cell (hc 1 _ rfl)
                  have d11 := n32.cell (hc 2 _ rfl)
                  simp only [Nat.zero_mul, Nat.zero_add, Nat.add_zero] at d9 d10 d11
                  have el : (jt (y.conn.map .mc)).length = (jt [.mc y2]).length := by rw [e]; rfl
                  obtain ⟨nb, hnb⟩ : ∃ n : Nat, n = (Ln.body (.mc y2)).length := ⟨_, rfl⟩
                  have bnb : nb <= 140737488355328 := by rw [hnb]; exact (by have h9 := HL.out; have h7 := HLE.out; have h0 := qBc (.mc y2); omega)
                  have KY : Hid (∀ w1, Nw w w1 -> Calls prog 108 #[.agg #[.string y2.net, .string y2.addr, p1]] w1 (qBi nb w1)) := hid (by rw [hnb]; exact fun w1 hn => sz_con y2 p1 w w1 hp1 hn (HOM.out.2.2 y2 (by rw [e]; exact List.mem_cons_self)) (Nat.le_trans (show (Ln.body (.mc y2)).length <= 140737488355328 by have h9 := HL.out; have h7 := HLE.out; have h0 := qBc (.mc y2); omega) (by decide)))
                  have Hnb := hid hnb
                  clear hnb
                  go_wp2_with (go_at_call 108; (with_reducible refine (KY.out _ n32).mono ?_); rintro e W99 ⟨rfl, hq99⟩; have n99 := n32.trans hq99)
                  go_meet
                  case rel => exact ⟨s32 + (4 + nb), by ((try simp (disch := omega) only [qB6]); go_num), hid (by unfold N3; rw [e]; exact szs HS32.out Hnb.out), n99⟩
                as_aux_lemma =>
                 obtain ⟨s33, rfl, HS33, n33⟩ := hcut
                 have bS33 : s33 <= 140737488355328 := by rw [HS33.out]; have h9 := HL.out; have h7 := HLE.out; simp only [qD9, qAl, qA7, length_append, length_nil]; omega
                 clear n32 HS32 bS32 d32_6
                 have d33_7 := n33.cell (HX.out 7 _ rfl)
                 obtain ⟨Al, nl, hvl⟩ := Ty.Sl_form MY.out.bws
                 subst hvl
                 apply_assumption
                 apply wp_seq_k
                 intro Kn hKn
                 go_cut [2] from 265 to 279 (fun v2 wc => ∃ n : Nat, v2 = .int .i64 (n : Int) /\ Hid (n = (jt (N4 x k y)).length) /\ Nw w wc)
                 case first =>
                  as_aux_lemma =>
                   have hmx := MY.out.bws.1
                   go_wp2
                   go_loopw [2, 270] (fun v2 i wr => ∃ kk n : Nat, kk <= y.bws.length /\ i = .int .i64 kk /\ v2 = .int .i64 (n : Int) /\ Hid (n = (jt (N3 x k y ++ (y.bws.take kk).map Ln.mb)).length) /\ Nw w wr) (fun _ i _ => y.bws.length - (intOf i).toNat)
                   case atStart => exact ⟨0, s33, Nat.zero_le _, rfl, rfl, hid (by rw [take_zero, map_nil, append_nil]; exact HS33.out), n33⟩
                   obtain ⟨kk, nk, hk, rfl, rfl, HK, hnw⟩ := hrel
                   by_cases hlt : kk < y.bws.length
                   · obtain ⟨b2, o, hAl, ha⟩ := Ty.Sl_at MY.out.bws kk hlt
                     subst hAl
                     obtain ⟨cs, hrl, hx⟩ := ha kk _ (List.getElem?_eq_getElem hlt)
                     obtain ⟨y2, hy⟩ : ∃ yy, yy = y.bws[kk] := ⟨_, rfl⟩
                     rw [<- hy] at hrl
                     obtain ⟨rfl, hwf⟩ := hrl
                     have e9_0 := hnw.cell (hx 0 _ rfl); have e9_1 := hnw.cell (hx 1 _ rfl); have e9_2 := hnw.cell (hx 2 _ rfl)
                     simp only [qBx, Ty.flat, Nat.add_zero] at e9_0 e9_1 e9_2
                     have k1 : (0 : Int) <= (kk : Int) := by omega
                     have k2 : (kk : Int) < (y.bws.length : Int) := by omega
                     have k3 : (kk : Int) <= (y.bws.length : Int) := by omega
                     have hsn := qEo Ln.mb hlt
                     rw [<- hy] at hsn
                     have hle := qEn Ln.mb y.bws (kk + 1)
                     rw [hsn, qAl, length_append] at hle
                     have bnk : nk <= 140737488355328 := by rw [HK.out]; have h9 := HL.out; have h7 := HLE.out; simp only [qD9, qAl, qA7, length_append, length_nil]; omega
                     have HSN2 := hid hsn
                     have hna := hnw.alloc (.cells #[.bool y2.x, .string y2.ty, .int .u64 y2.n] 198)
                     obtain ⟨nb, hnb⟩ : ∃ n : Nat, n = (Ln.body (.mb y2)).length := ⟨_, rfl⟩
                     have bnb : nb <= 140737488355328 := by rw [hnb]; exact (by have h9 := HL.out; have h7 := HLE.out; have h0 := qBc (.mb y2); omega)
                     have KY : Hid (∀ w1, Nw w w1 -> Calls prog 109 #[.agg #[.bool y2.x, .string y2.ty, .int .u64 y2.n]] w1 (qBi nb w1)) := hid (by rw [hnb]; exact fun w1 hn => sz_bw y2 w1 hwf.2 (Nat.le_trans (show (Ln.body (.mb y2)).length <= 140737488355328 by have h9 := HL.out; have h7 := HLE.out; have h0 := qBc (.mb y2); omega) (by decide)))
                     have Hnb := hid hnb
                     clear hnb
                     clear hx ha hy hsn hle
                     go_wp2_with (go_at_call 109; (with_reducible refine (KY.out _ hna).mono ?_); rintro e W99 ⟨rfl, hq99⟩; have n99 := hna.trans hq99)
                     exact ⟨⟨kk + 1, nk + (4 + nb), by omega, by go_num, by ((try simp (disch := omega) only [qB6]); go_num), hid (by rw [HSN2.out, <- append_assoc]; exact szs HK.out Hnb.out), n99⟩, by simp [intOf]; omega⟩
                   rw [show y.bws.take kk = y.bws from take_of_length_le (by omega)] at HK
                   go_wp2
                   go_meet
                   case rel => exact ⟨nk, rfl, HK, hnw⟩
                 as_aux_lemma =>
                  obtain ⟨s34, rfl, HS34, n34⟩ := hcut
                  have bS34 : s34 <= 140737488355328 := by rw [HS34.out]; have h9 := HL.out; have h7 := HLE.out; simp only [qD9, qAl, qA7, length_append, length_nil]; omega
                  clear n33 HS33 bS33 d33_7
                  have d34_8 := n34.cell (HX.out 8 _ rfl)
                  go_upto_if 284 with fail
                  go_cut [2] from 285 to 294 (fun v2 wc => ∃ n : Nat, v2 = .int .i64 (n : Int) /\ Hid (n = (jt (N5 x k y)).length) /\ Nw w wc)
                  case first =>
                   as_aux_lemma =>
                    rcases MY.out.key with ⟨e, hv⟩ | ⟨y2, b2, e, hv, hy⟩ <;> (injection hv with hv; subst hv)
                    · go_wp2
                      go_meet
                      case rel => exact ⟨s34, rfl, hid (by unfold N5; rw [e, map_nil, append_nil]; exact HS34.out), n34⟩
                    obtain ⟨dy, fy⟩ := qEg hy
                    have d9 := n34.cell dy
                    have el : (jt (y.key.map .mkey)).length = (jt [.mkey y2]).length := by rw [e]; rfl
                    obtain ⟨nb, hnb⟩ : ∃ n : Nat, n = (Ln.body (.mkey y2)).length := ⟨_, rfl⟩
                    have bnb : nb <= 140737488355328 := by rw [hnb]; exact (by have h9 := HL.out; have h7 := HLE.out; have h0 := qBc (.mkey y2); omega)
                    have KY : Hid (∀ w1, Nw w w1 -> Calls prog 113 #[.string y2] w1 (qBi nb w1)) := hid (by rw [hnb]; exact fun w1 hn => sz_key y2 w1)
                    have Hnb := hid hnb
                    clear hnb
                    go_wp2_with (go_at_call 113; (with_reducible refine (KY.out _ n34).mono ?_); rintro e W99 ⟨rfl, hq99⟩; have n99 := n34.trans hq99)
                    go_meet
                    case rel => exact ⟨s34 + (4 + nb), by ((try simp (disch := omega) only [qB6]); go_num), hid (by unfold N5; rw [e]; exact szs HS34.out Hnb.out), n99⟩
                  as_aux_lemma =>
                   obtain ⟨s35, rfl, HS35, n35⟩ := hcut
                   have bS35 : s35 <= 140737488355328 := by rw [HS35.out]; have h9 := HL.out; have h7 := HLE.out; simp only [qD9, qAl, qA7, length_append, length_nil]; omega
                   clear n34 HS34 bS34 d34_8
                   have d35_9 := n35.cell (HX.out 9 _ rfl)
                   obtain ⟨Al, nl, hvl⟩ := Ty.Sl_form MY.out.atts
                   subst hvl
                   have hmx := MY.out.atts.1
                   go_wp2
                   go_loopw [2, 300] (fun v2 i wr => ∃ kk n : Nat, kk <= y.atts.length /\ i = .int .i64 kk /\ v2 = .int .i64 (n : Int) /\ Hid (n = (jt (N5 x k y ++ (y.atts.take kk).map Ln.ma)).length) /\ Nw w wr) (fun _ i _ => y.atts.length - (intOf i).toNat)
                   case atStart => exact ⟨0, s35, Nat.zero_le _, rfl, rfl, hid (by rw [take_zero, map_nil, append_nil]; exact HS35.out), n35⟩
                   obtain ⟨kk, nk, hk, rfl, rfl, HK, hnw⟩ := hrel
                   by_cases hlt : kk < y.atts.length
                   · obtain ⟨b2, o, hAl, ha⟩ := Ty.Sl_at MY.out.atts kk hlt
                     subst hAl
                     obtain ⟨cs, hrl, hx⟩ := ha kk _ (List.getElem?_eq_getElem hlt)
                     obtain ⟨y2, hy⟩ : ∃ yy, yy = y.atts[kk] := ⟨_, rfl⟩
                     rw [<- hy] at hrl
                     obtain ⟨rfl, hwf⟩ := hrl
                     have e9_0 := hnw.cell (hx 0 _ rfl); have e9_1 := hnw.cell (hx 1 _ rfl)
                     simp only [qBy, Ty.flat, Nat.add_zero] at e9_0 e9_1
                     have k1 : (0 : Int) <= (kk : Int) := by omega
                     have k2 : (kk : Int) < (y.atts.length : Int) := by omega
                     have k3 : (kk : Int) <= (y.atts.length : Int) := by omega
                     have hsn := qEo Ln.ma hlt
                     rw [<- hy] at hsn
                     have hle := qEn Ln.ma y.atts (kk + 1)
                     rw [hsn, qAl, length_append] at hle
                     have bnk : nk <= 140737488355328 := by rw [HK.out]; have h9 := HL.out; have h7 := HLE.out; simp only [qD9, qAl, qA7, length_append, length_nil]; omega
                     have HSN2 := hid hsn
                     have hna := hnw.alloc (.cells #[.string y2.key, .string y2.val] 199)
                     obtain ⟨nb, hnb⟩ : ∃ n : Nat, n = (Ln.body (.ma y2)).length := ⟨_, rfl⟩
                     have bnb : nb <= 140737488355328 := by rw [hnb]; exact (by have h9 := HL.out; have h7 := HLE.out; have h0 := qBc (.ma y2); omega)
                     have KY : Hid (∀ w1, Nw w w1 -> Calls prog 114 #[.agg #[.string y2.key, .string y2.val]] w1 (qBi nb w1)) := hid (by rw [hnb]; exact fun w1 hn => sz_att y2 w1 (Nat.le_trans (show (Ln.body (.ma y2)).length <= 140737488355328 by have h9 := HL.out; have h7 := HLE.out; have h0 := qBc (.ma y2); omega) (by decide)))
                     have Hnb := hid hnb
                     clear hnb
                     clear hx ha hy hsn hle
                     go_wp2_with (go_at_call 114; (with_reducible refine (KY.out _ hna).mono ?_); rintro e W99 ⟨rfl, hq99⟩; have n99 := hna.trans hq99)
                     exact ⟨⟨kk + 1, nk + (4 + nb), by omega, by go_num, by ((try simp (disch := omega) only [qB6]); go_num), hid (by rw [HSN2.out, <- append_assoc]; exact szs HK.out Hnb.out), n99⟩, by simp [intOf]; omega⟩
                   rw [show y.atts.take kk = y.atts from take_of_length_le (by omega)] at HK
                   go_wp2
                   exact ⟨⟨k + 1, nk, by omega, by go_num, rfl, hid (by rw [HSN.out, <- append_assoc]; simpa only [N1, N2, N3, N4, N5, qBn, append_assoc, List.cons_append, nil_append] using HK.out), hnw⟩, by simp [intOf]; omega⟩
             rw [take_of_length_le (by omega)] at HK
             go_wp2
             go_meet
             case rel => exact ⟨nk, rfl, HK, hnw⟩
           as_aux_lemma =>
            obtain ⟨s14, rfl, HS14, n14⟩ := hcut
            clear n13 HS13 bS13 d13_18
            have e1 : jt (L14 x) = jt (lns x) := by
             rw [HLNS.out]
             rfl
            have e2 := HS14.out
            rw [e1] at e2
            go_wp2
            go_ret
            subst e2
            exact ⟨rfl, n14⟩
end Go.Proofs.YtcepdjlknalmnaaGreatDoor
