/- What the line of an attribute does. -/
import Derived.Test.YtcepdjlknalmnaaGreatDoorStepE
import Derived.Test.YtcepdjlknalmnaaGreatDoorLexC
namespace Go.Proofs.YtcepdjlknalmnaaGreatDoor
open Go.RowKit
set_option linter.unusedSimpArgs false
set_option linter.unusedVariables false
theorem row_appendG {P : Program} {o : Oper} {a : Act} {Q : Exit → Act → World → Prop} {K : Act → World → Prop} {W : World} (B : Nat) (s x : Operand) (t e sz : Nat) (z : Value) (bytes : Nat)
 (ho : o.op = .call { callee := .builtin .append, args := #[s, x], argTypes := #[t, t] })
 (ht : P.underlying t = some (.slice e)) (hinfo : (P.info? e).map (fun i => (i.zero, i.size, i.bytes)) = some (some z, sz, bytes)) (hz : z.cells.size = sz) (hsz : 0 < sz)
 (v : Value) (rows : List (List Value)) (r : List Value) (hs : a.eval s = v) (g : Nat) (hx : a.eval x = .slice (some ⟨g, 0, none⟩) 1 1) (hr : r.length = sz ∧ ∀ u ∈ r, u.oneCell' = true)
 (hc : ∀ (j : Nat) (u : Value), r[j]? = some u → W.cell? ⟨g, j, none⟩ = some u)
 (HO : Row W B e sz v rows) (hB : B ≤ W.heap.size) (hl : (rows.length + 1) * bytes ≤ 140737488355328) (hl2 : rows.length + 1 ≤ 140737488355328)
 (h : ∀ v1 w1, Row w1 B e sz v1 (rows ++ [r]) → Fr (fun k => some k = v.ownBlock) W w1 → (v1.ownBlock = v.ownBlock ∨ ∃ b, v1.ownBlock = some b ∧ W.heap.size ≤ b) → K (a.put o.dst v1) w1) :
 o.wp P a W K Q :=
 row_appends B s x t e sz z bytes ho ht hinfo hz hsz v rows [r] g 0 1 hs hx (fun r' hr' => by rw [List.mem_singleton.1 hr']; exact hr) (fun k j r' u hk hj => by
  have hk0 : k = 0 := by have := (List.getElem?_eq_some_iff.1 hk).1; simp at this; omega
  subst hk0
  obtain rfl : r = r' := by simpa using hk
  simpa using hc j u hj) HO hB hl hl2 h
theorem inf177 : (Tryz.prog.info? 177).map (fun i => (i.zero, i.size, i.bytes)) = some (some (.agg #[.int .u64 0, .int .u64 0, .slice none 0 0]), 3, 40) := by kernel_rfl
theorem inf178 : (Tryz.prog.info? 178).map (fun i => (i.zero, i.size, i.bytes)) = some (some (.agg #[.int .i64 0, .int .i64 0, .slice none 0 0]), 3, 40) := by kernel_rfl
theorem inf181 : (Tryz.prog.info? 181).map (fun i => (i.zero, i.size, i.bytes)) = some (some (.agg #[.int .u64 0, .int .i64 0]), 2, 16) := by kernel_rfl
theorem inf199 : (Tryz.prog.info? 199).map (fun i => (i.zero, i.size, i.bytes)) = some (some (.agg #[.string ⟨#[]⟩, .string ⟨#[]⟩]), 2, 32) := by kernel_rfl
theorem inf182 : (Tryz.prog.info? 182).map (fun i => (i.zero, i.size, i.bytes)) = some (some (.pointer none), 1, 8) := by kernel_rfl
end Go.Proofs.YtcepdjlknalmnaaGreatDoor
/- A part of a row's element is set; the cache's attributes. -/
namespace Go.Proofs.YtcepdjlknalmnaaGreatDoor
open Go.RowKit
set_option linter.unusedSimpArgs false
set_option linter.unusedVariables false
theorem flatten_set {sz : Nat} {u : Value} {j : Nat} (hj : j < sz) : ∀ {rows : List (List Value)} {k : Nat} {r : List Value}, (∀ r ∈ rows, r.length = sz) → rows[k]? = some r → (rows.set k (r.set j u)).flatten = rows.flatten.set (k * sz + j) u
 | [], k, _, _, hk => by simp at hk
 | r0 :: rows, 0, r, h, hk => by
  obtain rfl : r0 = r := by simpa using hk
  have h0 := h r0 List.mem_cons_self
  simp only [List.set_cons_zero, List.flatten_cons, Nat.zero_mul, Nat.zero_add]
  rw [List.set_append_left _ _ (by omega)]
 | r0 :: rows, k + 1, r, h, hk => by
  have h0 := h r0 List.mem_cons_self
  simp only [List.set_cons_succ, List.flatten_cons]
  rw [flatten_set hj (fun r hr => h r (List.mem_cons_of_mem _ hr)) (by simpa using hk), List.set_append_right _ _ (by rw [h0, Nat.succ_mul]; omega), h0, show (k + 1) * sz + j - sz = k * sz + j by rw [Nat.succ_mul]; omega]
namespace Row
variable {w w1 : World} {B e sz : Nat} {v : Value} {rows : List (List Value)}
theorem form1 (h : Row w B e sz v rows) (h0 : 0 < rows.length) : ∃ g c, v = .slice (some ⟨g, 0, none⟩) rows.length c := by
 rcases h.2.2 with ⟨rfl, h1⟩ | ⟨g, cap, cur, rfl, _⟩
 · omega
 · exact ⟨g, cap, rfl⟩
theorem cell (h : Row w B e sz v rows) {g k j : Nat} {r : List Value} {u : Value} (hg : v.ownBlock = some g) (hk : rows[k]? = some r) (hj : r[j]? = some u) : w.cell? ⟨g, k * sz + j, none⟩ = some u := by
 have := h.2.cells hg (k * sz + j) u (flatten_get (fun r hr => (h.1 r hr).1) hk hj)
 rwa [addr_add, Nat.zero_add] at this
theorem fz (h : Row w B e sz v rows) {g k : Nat} (hg : v.ownBlock = some g) : w.frozen? ⟨g, k, none⟩ = false := by
 rcases h.2.2 with ⟨rfl, h1⟩ | ⟨g', cap, cur, rfl, _, hh, _⟩
 · cases hg
 · obtain rfl : g' = g := by simpa [Value.ownBlock] using hg
   simp [World.frozen?, hh]
theorem set (h : Row w B e sz v rows) {g k j : Nat} {r : List Value} {u : Value} (hg : v.ownBlock = some g) (hk : rows[k]? = some r) (hj : j < sz) (hu : u.oneCell' = true) : Row (w.setCell ⟨g, k * sz + j, none⟩ u) B e sz v (rows.set k (r.set j u)) := by
 have hlk := (List.getElem?_eq_some_iff.1 hk).1
 have hm := List.mem_of_getElem? hk
 refine ⟨fun r' hr' => ?_, ?_, ?_⟩
 · rcases List.mem_or_eq_of_mem_set hr' with h1 | h1
   · exact h.1 r' h1
   · subst h1
     refine ⟨by rw [List.length_set]; exact (h.1 r hm).1, fun u' hu' => ?_⟩
     rcases List.mem_or_eq_of_mem_set hu' with h2 | h2
     · exact (h.1 r hm).2 u' h2
     · rw [h2]; exact hu
 · rw [flatten_set hj (fun r hr => (h.1 r hr).1) hk, List.length_set, List.length_set]
   exact h.2.1
 · rcases h.2.2 with ⟨rfl, h1⟩ | ⟨g', cap, cur, rfl, hb, hh, hc, hm2, hs, ht⟩
   · cases hg
   · obtain rfl : g' = g := by simpa [Value.ownBlock] using hg
     refine .inr ⟨g', cap, cur.setIfInBounds (k * sz + j) u, by rw [List.length_set], hb, ?_, by rw [List.length_set]; exact hc, hm2, by simpa using hs, ?_⟩
     · have hlt : g' < w.heap.size := by
        rcases Nat.lt_or_ge g' w.heap.size with h' | h'
        · exact h'
        · simp [Array.getElem?_eq_none h'] at hh
       have h' : w.heap[g'] = .cells cur e (0, 0) := by simpa [Array.getElem?_eq_getElem hlt] using hh
       show (w.heap.modify g' _)[g']? = _
       rw [Array.getElem?_eq_getElem (by simpa using hlt), Array.getElem_modify_self, h']
       rfl
     · rw [flatten_set hj (fun r hr => (h.1 r hr).1) hk, ← ht, List.length_set, Array.toList_setIfInBounds, List.take_set]
end Row
end Go.Proofs.YtcepdjlknalmnaaGreatDoor
/- What the reader's blocks are behind one more bandwidth, zone, attribute. Written by a small program of this claim's own (genrep). -/
namespace Go.Proofs.YtcepdjlknalmnaaGreatDoor
open Go.RowKit
set_option linter.unusedSimpArgs false
set_option linter.unusedVariables false
theorem RowT.toFlat {α : Type} {sz : Nat} {enc : α → List Value} {wf : α → Prop} {hl : ∀ x, (enc x).length = sz} {h1 : ∀ x, ∀ u ∈ enc x, u.oneCell' = true} {w : World} {B e : Nat} {v : Value} {xs : List α} {ok : Nat → Prop} (h : RowT (Ty.flat sz enc wf hl h1) w B e v xs ok) : Row w B e sz v (xs.map enc) ∧ ∀ x ∈ xs, wf x := by
 obtain ⟨rows, hr, hlen, hf⟩ := h
 have he : rows = xs.map enc := by
  apply List.ext_getElem
  · simp [hlen]
  · intro i h1 h2
    have := (hf i _ _ (List.getElem?_eq_getElem (by omega)) (List.getElem?_eq_getElem h1)).now
    rw [this.1]; simp
 refine ⟨by rw [← he]; exact hr, fun x hx => ?_⟩
 obtain ⟨i, hi, rfl⟩ := List.getElem_of_mem hx
 exact (hf i _ _ (List.getElem?_eq_getElem hi) (List.getElem?_eq_getElem (by omega))).now.2
def encAtt (x : Att) : List Value := [.string x.key, .string x.val]
end Go.Proofs.YtcepdjlknalmnaaGreatDoor
namespace Go.Proofs.YtcepdjlknalmnaaGreatDoor
open Go.RowKit
set_option linter.unusedSimpArgs false
set_option linter.unusedVariables false
theorem extract_bs (s : ByteArray) (p q : Nat) : bs (s.extract p q) = ((bs s).take q).drop p := by
 unfold bs
 rw [ByteArray.data_extract, Array.toList_extract, List.extract_eq_take_drop, List.drop_take]
theorem extract_mk (s : ByteArray) (p q : Nat) : s.extract p q = mk (((bs s).take q).drop p) := by
 rw [← extract_bs]; rfl
end Go.Proofs.YtcepdjlknalmnaaGreatDoor
/- The place of a sign in a text of ASCII. -/
namespace Go.Proofs.YtcepdjlknalmnaaGreatDoor
open Go.RowKit
set_option linter.unusedSimpArgs false
set_option linter.unusedVariables false
end Go.Proofs.YtcepdjlknalmnaaGreatDoor
namespace Go.Proofs.YtcepdjlknalmnaaGreatDoor
open Go.RowKit
set_option linter.unusedSimpArgs false
set_option linter.unusedVariables false
theorem PS.nw {B : Nat} {w w' : World} {ρ : Nat → Nat} {L D C : Nat} {s : ByteArray} {p : Nat} {q : Pst} {V : Vs} (h : PS B w ρ L D C s p q V) (hn : Nw w w') : PS B w' (ext ρ w.heap.size (fun _ => 0)) L D C s p q V :=
 h.lexN (hn.fr _) (h.lx.nw hn)
end Go.Proofs.YtcepdjlknalmnaaGreatDoor
