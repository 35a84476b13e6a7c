/- The text of the zones, zone by zone. Plain. -/
import Derived.Test.YtcepdjlknalmnaaGreatDoorLns
import Derived.Test.YtcepdjlknalmnaaGreatDoorTxtD
namespace Go.Proofs.YtcepdjlknalmnaaGreatDoor
def zj (zs : List Zon) : List UInt8 := joinB [32] ((zonesW zs).map mk)
theorem zw_len (zs : List Zon) : (zonesW zs).length = 2 * zs.length := by
 unfold zonesW
 induction zs with
 | nil => rfl
 | cons z zs ih =>
  rw [List.flatMap_cons, List.length_append, ih, List.length_cons]
  simp only [List.length_cons, List.length_nil]
  omega
theorem zj_snoc {zs : List Zon} {k : Nat} (h : k < zs.length) : zj (zs.take (k + 1)) = (if k = 0 then [] else zj (zs.take k) ++ [32]) ++ ((Lib.decDigits (Int.toNat zs[k].time)) ++ (32 :: (Lib.itoa zs[k].off))) := by
 have hl : (zs.take k).length = k := by simp; omega
 have e : (zonesW (zs.take (k + 1))).map mk = ((zonesW (zs.take k)).map mk ++ [mk ((Lib.decDigits (Int.toNat zs[k].time)))]) ++ [mk ((Lib.itoa zs[k].off))] := by
  rw [take_snoc h]
  unfold zonesW
  rw [List.flatMap_append, List.map_append]
  simp
 unfold zj
 rw [e, join_snoc, join_snoc, List.length_append, List.length_map, zw_len, hl, List.length_singleton, if_neg (by omega)]
 by_cases h0 : k = 0
 · subst h0
   simp [mk_list]
 · rw [if_neg (by omega), if_neg h0]
   simp [mk_list]
end Go.Proofs.YtcepdjlknalmnaaGreatDoor
