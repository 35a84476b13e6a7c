/- What the listed variables lay in memory: the witness's world, and what a list of them gives. -/
import Derived.Test.YtcepdjlknalmnaaGreatDoorRows
import Derived.Test.YtcepdjlknalmnaaGreatDoorTie
import Derived.Test.YtcepdjlknalmnaaGreatDoorCards
import Derived.Test.YtcepdjlknalmnaaGreatDoorBase
import Derived.Test.YtcepdjlknalmnaaGreatDoorLexB
import Derived.WalkKit
import Derived.ProofKit
import Derived.OpenShut
import Derived.Deep.DeepHandedRow
import Derived.Deep.DeepWitnessRowRef
import Derived.Lib.LaidTab
import Derived.Lib.LaidIn
import Derived.Stop.LaidErr
import Derived.ChangeMaps5
namespace Go.Proofs.YtcepdjlknalmnaaGreatDoor
open Go.ChangeShapes Go.WideShapes Go.ChangeAt Go.RowKit

theorem knob : ownKnob Tryz.prog.godebug = none := by kernel_rfl
theorem star_err : "*" ++ "errors.errorString" = "*errors.errorString" := by decide
theorem row348 (u : TypeId) (h : Tryz.prog.typeName? 3 u = some "*errors.errorString") : u = 348 :=
  typeName_ptr_named (nm := "errors.errorString") (by rw [star_err]; kernel_rfl) (by kernel_rfl) (by decide) u (by rw [star_err]; exact h)
def errCell (text : List UInt8) : Obj := .cells #[.string ⟨text.toArray⟩] 350
def u16Of (l : List (Nat × Nat × Nat)) : Array Value := (l.flatMap fun (a, b, c) => [Value.int .u16 a, Value.int .u16 b, Value.int .u16 c]).toArray
def whites : List (Nat × Nat × Nat) := [(9, 13, 1), (32, 133, 101), (160, 5760, 5600), (8192, 8202, 1), (8232, 8233, 1), (8239, 8287, 48), (12288, 12288, 1)]
def litsOf : List (DataW Unit) → List Value
  | [] => []
  | .lit (.int k n) :: r => .int k n :: litsOf r
  | .agg [.lit (.int k n), .lit (.int k' n')] :: r => .int k n :: .int k' n' :: litsOf r
  | _ :: r => litsOf r
def cellsOfD : DataW Unit → Array Value
  | .agg l => (litsOf l).toArray
  | _ => #[]
def textOfD : DataW Unit → List UInt8
  | .iface _ (.ptr (.agg [.lit (.string t)])) => t
  | _ => []
/-- The settled world, each listed variable holding what its initialiser lays. -/
noncomputable def laidWorld (os : Os) : World :=
  let N := (World.settled Tryz.prog os).heap.size
  let w0 := World.holding Tryz.prog os ⟨#[
    errCell (textOfD Rows.laid_io_EOF), errCell (textOfD Rows.laid_pionsdp_pub_sdp_errSDPInvalidValue), errCell (textOfD Rows.laid_pionsdp_pub_sdp_errDocumentStart), errCell (textOfD Rows.laid_pionsdp_pub_sdp_errFieldMissing),
    errCell (textOfD Rows.laid_pionsdp_pub_sdp_errSDPInvalidNumericValue), errCell (textOfD Rows.laid_pionsdp_pub_sdp_errSDPInvalidPortValue), errCell (textOfD Rows.laid_strconv_ErrSyntax), errCell (textOfD Rows.laid_strconv_ErrRange), errCell (textOfD Rows.laid_pionsdp_pub_sdp_errSDPInvalidSyntax),
    .cells (u16Of whites) 298, .cells #[.slice (some ⟨N + 9, 0, none⟩) 7 7, .slice none 0 0, .int .i64 2] 295], #[], []⟩
  let put (h : Array Obj) (g : Nat) (cs : Array Value) : Array Obj := h.modify g fun
    | .cells _ t frozen => .cells cs t frozen
    | o => o
  let err (h : Array Obj) (g i : Nat) : Array Obj := put h g #[.iface 348 (.pointer (some ⟨N + i, 0, none⟩))]
  let h1 := err (err (err (err (err (err (err (err (err w0.heap 0 0) 1 1) 4 2) 6 3) 11 4) 12 5) 13 6) 14 7) 15 8
  let h2 := put (put (put h1 2 (cellsOfD Rows.laid_strings_asciiSpace)) 3 #[.pointer (some ⟨N + 10, 0, none⟩)]) 5 (cellsOfD Rows.laid_internal_strconv_uint64pow10)
  let h3 := put (put h2 7 (cellsOfD Rows.laid_unicode_utf8_first)) 8 (cellsOfD Rows.laid_unicode_utf8_acceptRanges)
  { w0 with heap := put (put h3 9 (cellsOfD Rows.laid_math_bits_deBruijn32tab)) 10 (cellsOfD Rows.laid_math_bits_deBruijn64tab) }
noncomputable abbrev N0 : Nat := (World.settled Tryz.prog default).heap.size
/-- Whatever the call has made besides: io.EOF is where it was. -/
theorem eof_laid {W : World} {r : List (String × DataW Unit)} (h : laidMet Tryz.prog (("io.EOF", Rows.laid_io_EOF) :: r) W) : ∃ a, Eof W a := by
  obtain ⟨a, t, hv, hc, ht, _⟩ := laid_sentinel (g := 0) h (by kernel_rfl) (by kernel_rfl) Tryz.underlying118 row348 Tryz.underlying348 Tryz.underlying350 rfl rfl Tryz.underlying9 (by kernel_rfl) (by kernel_rfl)
  exact ⟨a, by unfold Eof; simpa using World.var?_cell (by kernel_rfl : Tryz.prog.globalNamed "io.EOF" = some 0) hv 0⟩
end Go.Proofs.YtcepdjlknalmnaaGreatDoor
