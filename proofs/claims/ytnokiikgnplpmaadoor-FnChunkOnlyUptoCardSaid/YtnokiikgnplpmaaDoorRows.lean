/-
  NARROWER THAN 'FOR EVERY INPUT', by the rows' own cells (each row's printed sentence says how): FnChunkLines: laid · FnChunkOnly: laid · FnTwoChunks: laid · FnJoin: laid · FnJoinMany: laid · FnJoinMoved: laid · FnJoinNothing: laid · FnChunk: laid · FnChunkEnd: laid.
  DERIVED. THE GIVEN ROWS OF THIS SEAT. 9 by the template 'for every input the law returns true; each argument reads behind the call as it read before'; 0 by the template 'total and deterministic' (their statements: YtnokiikgnplpmaaDoorTotals.lean).
  GIVEN WITH THE SEED: the statements are not yours to turn. If you find one false, say at which input.
  Laid BY PROGRAM, IN A SANDBOX (cutbox-rows.mjs): the forced cells as the released guide's own fill.sh prints them over the translation 5ebe59dea6b138bf… (all of the seat's roots in one cut). By AI agents, Wed Nov 11 2026. No macro, syntax, notation, axiom, sorry.
-/
import Derived.Test.YtnokiikgnplpmaaDoorChecked
import GoSem.Claim
import GoSem.ClaimJoined
import GoSem.ClaimMapViews
import Derived.JoinedTies
import Derived.KernelRfl
namespace Go.Proofs.YtnokiikgnplpmaaDoor
/- THE CELL 'sum', in the pinned program and in every row, IS THE sha256 OF THE DUMP (.gsa) THAT YtnokiikgnplpmaaDoorProg.lean LOADS. Nothing in Lean hashes anything: it is a label: what it is worth is what the hold of that sum in a sandbox is worth. -/
noncomputable def Tryd.pinned : Pinned := { name := "ytnokiikgnplpmaadoor", sum := "5ebe59dea6b138bf259447c14ceb55f609c4a1665ac2cda54a031f0f2034408e", checked := Tryd.checked }
namespace Rows
def none {H : Type} : Left H := { results := [], args := [] }

/- WHAT THE LISTED PACKAGE-LEVEL VARIABLES READ AS WHEN THE CALL BEGINS. Each datum BY PROGRAM (the guide's laid-datum.mjs) off the statement by which the dump's own 'gosem.cut.vars' lays the variable. In a bare row this is a premise. The card (YtnokiikgnplpmaaDoorCards.lean) ties it to the program's text. -/
def laid_mapthread_pub_esbuild_inner_sourcemap_base64 {H : Type} : DataW H := .slice [.lit (.int .u8 65), .lit (.int .u8 66), .lit (.int .u8 67), .lit (.int .u8 68), .lit (.int .u8 69), .lit (.int .u8 70), .lit (.int .u8 71), .lit (.int .u8 72), .lit (.int .u8 73), .lit (.int .u8 74), .lit (.int .u8 75), .lit (.int .u8 76), .lit (.int .u8 77), .lit (.int .u8 78), .lit (.int .u8 79), .lit (.int .u8 80), .lit (.int .u8 81), .lit (.int .u8 82), .lit (.int .u8 83), .lit (.int .u8 84), .lit (.int .u8 85), .lit (.int .u8 86), .lit (.int .u8 87), .lit (.int .u8 88), .lit (.int .u8 89), .lit (.int .u8 90), .lit (.int .u8 97), .lit (.int .u8 98), .lit (.int .u8 99), .lit (.int .u8 100), .lit (.int .u8 101), .lit (.int .u8 102), .lit (.int .u8 103), .lit (.int .u8 104), .lit (.int .u8 105), .lit (.int .u8 106), .lit (.int .u8 107), .lit (.int .u8 108), .lit (.int .u8 109), .lit (.int .u8 110), .lit (.int .u8 111), .lit (.int .u8 112), .lit (.int .u8 113), .lit (.int .u8 114), .lit (.int .u8 115), .lit (.int .u8 116), .lit (.int .u8 117), .lit (.int .u8 118), .lit (.int .u8 119), .lit (.int .u8 120), .lit (.int .u8 121), .lit (.int .u8 122), .lit (.int .u8 48), .lit (.int .u8 49), .lit (.int .u8 50), .lit (.int .u8 51), .lit (.int .u8 52), .lit (.int .u8 53), .lit (.int .u8 54), .lit (.int .u8 55), .lit (.int .u8 56), .lit (.int .u8 57), .lit (.int .u8 43), .lit (.int .u8 47)] []

/-- 'laws.FnChunkLines': WHATEVER THE INPUT: true; the input reads as it did. -/
def fnChunkLinesSpec : ChangeSpec := { name := "fnChunkLines", fn := fun _ => fun
  | [d1, d2, d3, d4, d5] => { results := [.lit (.bool true)], args := [d1, d2, d3, d4, d5] }
  | _ => none }
def fnChunkLinesRow : OpenClaim := { program := "ytnokiikgnplpmaadoor", sum := "5ebe59dea6b138bf259447c14ceb55f609c4a1665ac2cda54a031f0f2034408e", func := "mapthread/laws.FnChunkLines", spec := "fnChunkLines", named := ["mapthread/pub/esbuild/inner/sourcemap.base64"], plainKeys := false, apart := false, laid := [("mapthread/pub/esbuild/inner/sourcemap.base64", laid_mapthread_pub_esbuild_inner_sourcemap_base64)] }
def FnChunkLinesSaid : Prop := fnChunkLinesRow.holds Tryd.pinned (OpenSpec.ofChange fnChunkLinesSpec)

/-- ITS FALSE NEIGHBOUR: 'it returns false'. Refute it at one input. -/
def fnChunkLinesWrong : ChangeSpec := { name := "fnChunkLines", fn := fun _ => fun
  | [d1, d2, d3, d4, d5] => { results := [.lit (.bool false)], args := [d1, d2, d3, d4, d5] }
  | _ => none }
def FnChunkLinesWrongFalsely : Prop := fnChunkLinesRow.holds Tryd.pinned (OpenSpec.ofChange fnChunkLinesWrong)

/-- 'laws.FnChunkOnly': WHATEVER THE INPUT: true; the input reads as it did. -/
def fnChunkOnlySpec : ChangeSpec := { name := "fnChunkOnly", fn := fun _ => fun
  | [d1, d2, d3, d4] => { results := [.lit (.bool true)], args := [d1, d2, d3, d4] }
  | _ => none }
def fnChunkOnlyRow : OpenClaim := { program := "ytnokiikgnplpmaadoor", sum := "5ebe59dea6b138bf259447c14ceb55f609c4a1665ac2cda54a031f0f2034408e", func := "mapthread/laws.FnChunkOnly", spec := "fnChunkOnly", named := ["mapthread/pub/esbuild/inner/sourcemap.base64"], plainKeys := false, apart := false, laid := [("mapthread/pub/esbuild/inner/sourcemap.base64", laid_mapthread_pub_esbuild_inner_sourcemap_base64)] }
def FnChunkOnlySaid : Prop := fnChunkOnlyRow.holds Tryd.pinned (OpenSpec.ofChange fnChunkOnlySpec)

/-- ITS FALSE NEIGHBOUR: 'it returns false'. Refute it at one input. -/
def fnChunkOnlyWrong : ChangeSpec := { name := "fnChunkOnly", fn := fun _ => fun
  | [d1, d2, d3, d4] => { results := [.lit (.bool false)], args := [d1, d2, d3, d4] }
  | _ => none }
def FnChunkOnlyWrongFalsely : Prop := fnChunkOnlyRow.holds Tryd.pinned (OpenSpec.ofChange fnChunkOnlyWrong)

/-- 'laws.FnTwoChunks': WHATEVER THE INPUT: true; the input reads as it did. -/
def fnTwoChunksSpec : ChangeSpec := { name := "fnTwoChunks", fn := fun _ => fun
  | [d1, d2, d3, d4, d5, d6] => { results := [.lit (.bool true)], args := [d1, d2, d3, d4, d5, d6] }
  | _ => none }
def fnTwoChunksRow : OpenClaim := { program := "ytnokiikgnplpmaadoor", sum := "5ebe59dea6b138bf259447c14ceb55f609c4a1665ac2cda54a031f0f2034408e", func := "mapthread/laws.FnTwoChunks", spec := "fnTwoChunks", inPlace := ["internal/bytealg.MakeNoZero", "internal/bytealg.IndexByte", "internal/bytealg.IndexByteString"], named := ["mapthread/pub/esbuild/inner/sourcemap.base64"], plainKeys := false, apart := false, laid := [("mapthread/pub/esbuild/inner/sourcemap.base64", laid_mapthread_pub_esbuild_inner_sourcemap_base64)] }
def FnTwoChunksSaid : Prop := fnTwoChunksRow.holds Tryd.pinned (OpenSpec.ofChange fnTwoChunksSpec)

/-- ITS FALSE NEIGHBOUR: 'it returns false'. Refute it at one input. -/
def fnTwoChunksWrong : ChangeSpec := { name := "fnTwoChunks", fn := fun _ => fun
  | [d1, d2, d3, d4, d5, d6] => { results := [.lit (.bool false)], args := [d1, d2, d3, d4, d5, d6] }
  | _ => none }
def FnTwoChunksWrongFalsely : Prop := fnTwoChunksRow.holds Tryd.pinned (OpenSpec.ofChange fnTwoChunksWrong)

/-- 'laws.FnJoin': WHATEVER THE INPUT: true; the input reads as it did. -/
def fnJoinSpec : ChangeSpec := { name := "fnJoin", fn := fun _ => fun
  | [d1, d2, d3] => { results := [.lit (.bool true)], args := [d1, d2, d3] }
  | _ => none }
def fnJoinRow : OpenClaim := { program := "ytnokiikgnplpmaadoor", sum := "5ebe59dea6b138bf259447c14ceb55f609c4a1665ac2cda54a031f0f2034408e", func := "mapthread/laws.FnJoin", spec := "fnJoin", inPlace := ["internal/bytealg.MakeNoZero", "internal/bytealg.IndexByte", "internal/bytealg.IndexByteString"], named := ["mapthread/pub/esbuild/inner/sourcemap.base64"], plainKeys := false, apart := false, laid := [("mapthread/pub/esbuild/inner/sourcemap.base64", laid_mapthread_pub_esbuild_inner_sourcemap_base64)] }
def FnJoinSaid : Prop := fnJoinRow.holds Tryd.pinned (OpenSpec.ofChange fnJoinSpec)

/-- ITS FALSE NEIGHBOUR: 'it returns false'. Refute it at one input. -/
def fnJoinWrong : ChangeSpec := { name := "fnJoin", fn := fun _ => fun
  | [d1, d2, d3] => { results := [.lit (.bool false)], args := [d1, d2, d3] }
  | _ => none }
def FnJoinWrongFalsely : Prop := fnJoinRow.holds Tryd.pinned (OpenSpec.ofChange fnJoinWrong)

/-- 'laws.FnJoinMany': WHATEVER THE INPUT: true; the input reads as it did. -/
def fnJoinManySpec : ChangeSpec := { name := "fnJoinMany", fn := fun _ => fun
  | [d] => { results := [.lit (.bool true)], args := [d] }
  | _ => none }
def fnJoinManyRow : OpenClaim := { program := "ytnokiikgnplpmaadoor", sum := "5ebe59dea6b138bf259447c14ceb55f609c4a1665ac2cda54a031f0f2034408e", func := "mapthread/laws.FnJoinMany", spec := "fnJoinMany", inPlace := ["internal/bytealg.MakeNoZero", "internal/bytealg.IndexByte", "internal/bytealg.IndexByteString"], named := ["mapthread/pub/esbuild/inner/sourcemap.base64"], plainKeys := false, apart := false, laid := [("mapthread/pub/esbuild/inner/sourcemap.base64", laid_mapthread_pub_esbuild_inner_sourcemap_base64)] }
def FnJoinManySaid : Prop := fnJoinManyRow.holds Tryd.pinned (OpenSpec.ofChange fnJoinManySpec)

/-- ITS FALSE NEIGHBOUR: 'it returns false'. Refute it at one input. -/
def fnJoinManyWrong : ChangeSpec := { name := "fnJoinMany", fn := fun _ => fun
  | [d] => { results := [.lit (.bool false)], args := [d] }
  | _ => none }
def FnJoinManyWrongFalsely : Prop := fnJoinManyRow.holds Tryd.pinned (OpenSpec.ofChange fnJoinManyWrong)

/-- 'laws.FnJoinMoved': WHATEVER THE INPUT: true; the input reads as it did. -/
def fnJoinMovedSpec : ChangeSpec := { name := "fnJoinMoved", fn := fun _ => fun
  | [d1, d2] => { results := [.lit (.bool true)], args := [d1, d2] }
  | _ => none }
def fnJoinMovedRow : OpenClaim := { program := "ytnokiikgnplpmaadoor", sum := "5ebe59dea6b138bf259447c14ceb55f609c4a1665ac2cda54a031f0f2034408e", func := "mapthread/laws.FnJoinMoved", spec := "fnJoinMoved", inPlace := ["internal/bytealg.MakeNoZero", "internal/bytealg.IndexByte", "internal/bytealg.IndexByteString"], named := ["mapthread/pub/esbuild/inner/sourcemap.base64"], plainKeys := false, apart := false, laid := [("mapthread/pub/esbuild/inner/sourcemap.base64", laid_mapthread_pub_esbuild_inner_sourcemap_base64)] }
def FnJoinMovedSaid : Prop := fnJoinMovedRow.holds Tryd.pinned (OpenSpec.ofChange fnJoinMovedSpec)

/-- ITS FALSE NEIGHBOUR: 'it returns false'. Refute it at one input. -/
def fnJoinMovedWrong : ChangeSpec := { name := "fnJoinMoved", fn := fun _ => fun
  | [d1, d2] => { results := [.lit (.bool false)], args := [d1, d2] }
  | _ => none }
def FnJoinMovedWrongFalsely : Prop := fnJoinMovedRow.holds Tryd.pinned (OpenSpec.ofChange fnJoinMovedWrong)

/-- 'laws.FnJoinNothing': WHATEVER THE INPUT: true; the input reads as it did. -/
def fnJoinNothingSpec : ChangeSpec := { name := "fnJoinNothing", fn := fun _ => fun
  | [d] => { results := [.lit (.bool true)], args := [d] }
  | _ => none }
def fnJoinNothingRow : OpenClaim := { program := "ytnokiikgnplpmaadoor", sum := "5ebe59dea6b138bf259447c14ceb55f609c4a1665ac2cda54a031f0f2034408e", func := "mapthread/laws.FnJoinNothing", spec := "fnJoinNothing", inPlace := ["internal/bytealg.MakeNoZero", "internal/bytealg.IndexByte", "internal/bytealg.IndexByteString"], named := ["mapthread/pub/esbuild/inner/sourcemap.base64"], plainKeys := false, apart := false, laid := [("mapthread/pub/esbuild/inner/sourcemap.base64", laid_mapthread_pub_esbuild_inner_sourcemap_base64)] }
def FnJoinNothingSaid : Prop := fnJoinNothingRow.holds Tryd.pinned (OpenSpec.ofChange fnJoinNothingSpec)

/-- ITS FALSE NEIGHBOUR: 'it returns false'. Refute it at one input. -/
def fnJoinNothingWrong : ChangeSpec := { name := "fnJoinNothing", fn := fun _ => fun
  | [d] => { results := [.lit (.bool false)], args := [d] }
  | _ => none }
def FnJoinNothingWrongFalsely : Prop := fnJoinNothingRow.holds Tryd.pinned (OpenSpec.ofChange fnJoinNothingWrong)

/-- 'laws.FnChunk': WHATEVER THE INPUT: true; the input reads as it did. -/
def fnChunkSpec : ChangeSpec := { name := "fnChunk", fn := fun _ => fun
  | [d1, d2, d3, d4] => { results := [.lit (.bool true)], args := [d1, d2, d3, d4] }
  | _ => none }
def fnChunkRow : OpenClaim := { program := "ytnokiikgnplpmaadoor", sum := "5ebe59dea6b138bf259447c14ceb55f609c4a1665ac2cda54a031f0f2034408e", func := "mapthread/laws.FnChunk", spec := "fnChunk", named := ["mapthread/pub/esbuild/inner/sourcemap.base64"], plainKeys := false, apart := false, laid := [("mapthread/pub/esbuild/inner/sourcemap.base64", laid_mapthread_pub_esbuild_inner_sourcemap_base64)] }
def FnChunkSaid : Prop := fnChunkRow.holds Tryd.pinned (OpenSpec.ofChange fnChunkSpec)

/-- ITS FALSE NEIGHBOUR: 'it returns false'. Refute it at one input. -/
def fnChunkWrong : ChangeSpec := { name := "fnChunk", fn := fun _ => fun
  | [d1, d2, d3, d4] => { results := [.lit (.bool false)], args := [d1, d2, d3, d4] }
  | _ => none }
def FnChunkWrongFalsely : Prop := fnChunkRow.holds Tryd.pinned (OpenSpec.ofChange fnChunkWrong)

/-- 'laws.FnChunkEnd': WHATEVER THE INPUT: true; the input reads as it did. -/
def fnChunkEndSpec : ChangeSpec := { name := "fnChunkEnd", fn := fun _ => fun
  | [d1, d2, d3, d4] => { results := [.lit (.bool true)], args := [d1, d2, d3, d4] }
  | _ => none }
def fnChunkEndRow : OpenClaim := { program := "ytnokiikgnplpmaadoor", sum := "5ebe59dea6b138bf259447c14ceb55f609c4a1665ac2cda54a031f0f2034408e", func := "mapthread/laws.FnChunkEnd", spec := "fnChunkEnd", named := ["mapthread/pub/esbuild/inner/sourcemap.base64"], plainKeys := false, apart := false, laid := [("mapthread/pub/esbuild/inner/sourcemap.base64", laid_mapthread_pub_esbuild_inner_sourcemap_base64)] }
def FnChunkEndSaid : Prop := fnChunkEndRow.holds Tryd.pinned (OpenSpec.ofChange fnChunkEndSpec)

/-- ITS FALSE NEIGHBOUR: 'it returns false'. Refute it at one input. -/
def fnChunkEndWrong : ChangeSpec := { name := "fnChunkEnd", fn := fun _ => fun
  | [d1, d2, d3, d4] => { results := [.lit (.bool false)], args := [d1, d2, d3, d4] }
  | _ => none }
def FnChunkEndWrongFalsely : Prop := fnChunkEndRow.holds Tryd.pinned (OpenSpec.ofChange fnChunkEndWrong)

/- THE SECOND FORM. 'bulk': how many values and letters a reading holds, each counted each time it is reached (what is shared counts as often as it is met; a slice's spare places count too). A statement '..UptoSaid' is the law's where the arguments, and the package variables that the reading takes, are together of bulk at most 1048576: NARROWER than '..Said'. Prove '..Said' where nothing that the law and all that it calls make is longer than what came in: it says more and counts as full. Else prove '..UptoSaid'. A law counts once. -/
mutual
def uptoBulk {H : Type} : DataW H → Nat
  | .lit (.string bytes) => bytes.length + 1
  | .lit _ => 1
  | .nil => 1
  | .ptr d => uptoBulk d + 1
  | .slice elems spare => uptoBulkAll elems + uptoBulkAll spare + 1
  | .agg parts => uptoBulkAll parts + 1
  | .iface _ d => uptoBulk d + 1
  | .map entries => uptoBulkEntries entries + 1
  | .held _ => 1
def uptoBulkAll {H : Type} : List (DataW H) → Nat
  | [] => 0
  | d :: r => uptoBulk d + uptoBulkAll r
def uptoBulkEntries {H : Type} : List (Lit × DataW H) → Nat
  | [] => 0
  | x :: r => uptoBulkEntry x + uptoBulkEntries r
def uptoBulkEntry {H : Type} : Lit × DataW H → Nat
  | (.string bytes, d) => bytes.length + uptoBulk d + 1
  | (_, d) => uptoBulk d + 1
 end
def uptoSmall : (H : Type) → List (DataW H) → Bool := fun _ ds => decide (uptoBulkAll ds ≤ 1048576)
def OpenSpec.upto (s : _root_.Go.ChangeSpec) : _root_.Go.OpenSpec := { _root_.Go.OpenSpec.ofChange s with cond := some uptoSmall }

/-- 'laws.FnChunkLines', WHERE WHAT IT READS IS OF BULK AT MOST 1048576: true; the input reads as it did. -/
def fnChunkLinesUptoRow : OpenClaim := { program := "ytnokiikgnplpmaadoor", sum := "5ebe59dea6b138bf259447c14ceb55f609c4a1665ac2cda54a031f0f2034408e", func := "mapthread/laws.FnChunkLines", spec := "fnChunkLines", named := ["mapthread/pub/esbuild/inner/sourcemap.base64"], plainKeys := false, apart := false, laid := [("mapthread/pub/esbuild/inner/sourcemap.base64", laid_mapthread_pub_esbuild_inner_sourcemap_base64)], narrowed := true }
def FnChunkLinesUptoSaid : Prop := fnChunkLinesUptoRow.holds Tryd.pinned (OpenSpec.upto fnChunkLinesSpec)

/-- 'laws.FnChunkOnly', WHERE WHAT IT READS IS OF BULK AT MOST 1048576: true; the input reads as it did. -/
def fnChunkOnlyUptoRow : OpenClaim := { program := "ytnokiikgnplpmaadoor", sum := "5ebe59dea6b138bf259447c14ceb55f609c4a1665ac2cda54a031f0f2034408e", func := "mapthread/laws.FnChunkOnly", spec := "fnChunkOnly", named := ["mapthread/pub/esbuild/inner/sourcemap.base64"], plainKeys := false, apart := false, laid := [("mapthread/pub/esbuild/inner/sourcemap.base64", laid_mapthread_pub_esbuild_inner_sourcemap_base64)], narrowed := true }
def FnChunkOnlyUptoSaid : Prop := fnChunkOnlyUptoRow.holds Tryd.pinned (OpenSpec.upto fnChunkOnlySpec)

/-- 'laws.FnTwoChunks', WHERE WHAT IT READS IS OF BULK AT MOST 1048576: true; the input reads as it did. -/
def fnTwoChunksUptoRow : OpenClaim := { program := "ytnokiikgnplpmaadoor", sum := "5ebe59dea6b138bf259447c14ceb55f609c4a1665ac2cda54a031f0f2034408e", func := "mapthread/laws.FnTwoChunks", spec := "fnTwoChunks", inPlace := ["internal/bytealg.MakeNoZero", "internal/bytealg.IndexByte", "internal/bytealg.IndexByteString"], named := ["mapthread/pub/esbuild/inner/sourcemap.base64"], plainKeys := false, apart := false, laid := [("mapthread/pub/esbuild/inner/sourcemap.base64", laid_mapthread_pub_esbuild_inner_sourcemap_base64)], narrowed := true }
def FnTwoChunksUptoSaid : Prop := fnTwoChunksUptoRow.holds Tryd.pinned (OpenSpec.upto fnTwoChunksSpec)

/-- 'laws.FnJoin', WHERE WHAT IT READS IS OF BULK AT MOST 1048576: true; the input reads as it did. -/
def fnJoinUptoRow : OpenClaim := { program := "ytnokiikgnplpmaadoor", sum := "5ebe59dea6b138bf259447c14ceb55f609c4a1665ac2cda54a031f0f2034408e", func := "mapthread/laws.FnJoin", spec := "fnJoin", inPlace := ["internal/bytealg.MakeNoZero", "internal/bytealg.IndexByte", "internal/bytealg.IndexByteString"], named := ["mapthread/pub/esbuild/inner/sourcemap.base64"], plainKeys := false, apart := false, laid := [("mapthread/pub/esbuild/inner/sourcemap.base64", laid_mapthread_pub_esbuild_inner_sourcemap_base64)], narrowed := true }
def FnJoinUptoSaid : Prop := fnJoinUptoRow.holds Tryd.pinned (OpenSpec.upto fnJoinSpec)

/-- 'laws.FnJoinMany', WHERE WHAT IT READS IS OF BULK AT MOST 1048576: true; the input reads as it did. -/
def fnJoinManyUptoRow : OpenClaim := { program := "ytnokiikgnplpmaadoor", sum := "5ebe59dea6b138bf259447c14ceb55f609c4a1665ac2cda54a031f0f2034408e", func := "mapthread/laws.FnJoinMany", spec := "fnJoinMany", inPlace := ["internal/bytealg.MakeNoZero", "internal/bytealg.IndexByte", "internal/bytealg.IndexByteString"], named := ["mapthread/pub/esbuild/inner/sourcemap.base64"], plainKeys := false, apart := false, laid := [("mapthread/pub/esbuild/inner/sourcemap.base64", laid_mapthread_pub_esbuild_inner_sourcemap_base64)], narrowed := true }
def FnJoinManyUptoSaid : Prop := fnJoinManyUptoRow.holds Tryd.pinned (OpenSpec.upto fnJoinManySpec)

/-- 'laws.FnJoinMoved', WHERE WHAT IT READS IS OF BULK AT MOST 1048576: true; the input reads as it did. -/
def fnJoinMovedUptoRow : OpenClaim := { program := "ytnokiikgnplpmaadoor", sum := "5ebe59dea6b138bf259447c14ceb55f609c4a1665ac2cda54a031f0f2034408e", func := "mapthread/laws.FnJoinMoved", spec := "fnJoinMoved", inPlace := ["internal/bytealg.MakeNoZero", "internal/bytealg.IndexByte", "internal/bytealg.IndexByteString"], named := ["mapthread/pub/esbuild/inner/sourcemap.base64"], plainKeys := false, apart := false, laid := [("mapthread/pub/esbuild/inner/sourcemap.base64", laid_mapthread_pub_esbuild_inner_sourcemap_base64)], narrowed := true }
def FnJoinMovedUptoSaid : Prop := fnJoinMovedUptoRow.holds Tryd.pinned (OpenSpec.upto fnJoinMovedSpec)

/-- 'laws.FnJoinNothing', WHERE WHAT IT READS IS OF BULK AT MOST 1048576: true; the input reads as it did. -/
def fnJoinNothingUptoRow : OpenClaim := { program := "ytnokiikgnplpmaadoor", sum := "5ebe59dea6b138bf259447c14ceb55f609c4a1665ac2cda54a031f0f2034408e", func := "mapthread/laws.FnJoinNothing", spec := "fnJoinNothing", inPlace := ["internal/bytealg.MakeNoZero", "internal/bytealg.IndexByte", "internal/bytealg.IndexByteString"], named := ["mapthread/pub/esbuild/inner/sourcemap.base64"], plainKeys := false, apart := false, laid := [("mapthread/pub/esbuild/inner/sourcemap.base64", laid_mapthread_pub_esbuild_inner_sourcemap_base64)], narrowed := true }
def FnJoinNothingUptoSaid : Prop := fnJoinNothingUptoRow.holds Tryd.pinned (OpenSpec.upto fnJoinNothingSpec)

/-- 'laws.FnChunk', WHERE WHAT IT READS IS OF BULK AT MOST 1048576: true; the input reads as it did. -/
def fnChunkUptoRow : OpenClaim := { program := "ytnokiikgnplpmaadoor", sum := "5ebe59dea6b138bf259447c14ceb55f609c4a1665ac2cda54a031f0f2034408e", func := "mapthread/laws.FnChunk", spec := "fnChunk", named := ["mapthread/pub/esbuild/inner/sourcemap.base64"], plainKeys := false, apart := false, laid := [("mapthread/pub/esbuild/inner/sourcemap.base64", laid_mapthread_pub_esbuild_inner_sourcemap_base64)], narrowed := true }
def FnChunkUptoSaid : Prop := fnChunkUptoRow.holds Tryd.pinned (OpenSpec.upto fnChunkSpec)

/-- 'laws.FnChunkEnd', WHERE WHAT IT READS IS OF BULK AT MOST 1048576: true; the input reads as it did. -/
def fnChunkEndUptoRow : OpenClaim := { program := "ytnokiikgnplpmaadoor", sum := "5ebe59dea6b138bf259447c14ceb55f609c4a1665ac2cda54a031f0f2034408e", func := "mapthread/laws.FnChunkEnd", spec := "fnChunkEnd", named := ["mapthread/pub/esbuild/inner/sourcemap.base64"], plainKeys := false, apart := false, laid := [("mapthread/pub/esbuild/inner/sourcemap.base64", laid_mapthread_pub_esbuild_inner_sourcemap_base64)], narrowed := true }
def FnChunkEndUptoSaid : Prop := fnChunkEndUptoRow.holds Tryd.pinned (OpenSpec.upto fnChunkEndSpec)

end Rows
end Go.Proofs.YtnokiikgnplpmaaDoor
