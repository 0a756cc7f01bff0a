/-
  NARROWER THAN 'FOR EVERY INPUT', by the rows' own cells (each row's printed sentence says how): FnSeparator: laid · FnOrders: laid · FnIkeys: laid · FnIkey: laid.
  DERIVED. THE GIVEN ROWS OF THIS SEAT. 4 by the template 'for every input the law returns true; each argument reads behind the call as it read before'; 0 by the template 'total and deterministic' (their statements: YtpdibidfjhjoeaaDoorTotals.lean).
  GIVEN WITH THE SEED: the statements are not yours to turn. If you find one false, say at which input.
  Laid BY PROGRAM, IN A SANDBOX (cutbox-rows.mjs): the forced cells as the released guide's own fill.sh prints them over the translation eda1f96d88db1c88… (all of the seat's roots in one cut). By AI agents, Wed Nov 11 2026. No macro, syntax, notation, axiom, sorry.
-/
import Derived.Test.YtpdibidfjhjoeaaDoorChecked
import GoSem.Claim
import GoSem.ClaimJoined
import GoSem.ClaimMapViews
import Derived.JoinedTies
import Derived.KernelRfl
namespace Go.Proofs.YtpdibidfjhjoeaaDoor
/- THE CELL 'sum', in the pinned program and in every row, IS THE sha256 OF THE DUMP (.gsa) THAT YtpdibidfjhjoeaaDoorProg.lean LOADS. Nothing in Lean hashes anything: it is a label: what it is worth is what the hold of that sum in a sandbox is worth. -/
noncomputable def Tryd.pinned : Pinned := { name := "ytpdibidfjhjoeaadoor", sum := "eda1f96d88db1c88d0b372ad6d6b761a02d659b3cb6806a84c51078c7c3b0154", checked := Tryd.checked }
namespace Rows
def none {H : Type} : Left H := { results := [], args := [] }

/- WHAT THE LISTED PACKAGE-LEVEL VARIABLES READ AS WHEN THE CALL BEGINS. Each datum BY PROGRAM (the guide's laid-datum.mjs) off the statement by which the dump's own 'gosem.cut.vars' lays the variable. In a bare row this is a premise. The card (YtpdibidfjhjoeaaDoorCards.lean) ties it to the program's text. -/
def laid_pub_lockfold_pub_goleveldb_leveldb_comparer_DefaultComparer {H : Type} : DataW H := .agg []

/-- 'laws.FnSeparator': WHATEVER THE INPUT: true; the input reads as it did. -/
def fnSeparatorSpec : ChangeSpec := { name := "fnSeparator", fn := fun _ => fun
  | [d1, d2, d3] => { results := [.lit (.bool true)], args := [d1, d2, d3] }
  | _ => none }
def fnSeparatorRow : OpenClaim := { program := "ytpdibidfjhjoeaadoor", sum := "eda1f96d88db1c88d0b372ad6d6b761a02d659b3cb6806a84c51078c7c3b0154", func := "pub-lockfold/laws.FnSeparator", spec := "fnSeparator", unfollowed := true, recurses := true, named := ["pub-lockfold/pub/goleveldb/leveldb/comparer.DefaultComparer"], apart := false, laid := [("pub-lockfold/pub/goleveldb/leveldb/comparer.DefaultComparer", laid_pub_lockfold_pub_goleveldb_leveldb_comparer_DefaultComparer)] }
def FnSeparatorSaid : Prop := fnSeparatorRow.holds Tryd.pinned (OpenSpec.ofChange fnSeparatorSpec)

/-- ITS FALSE NEIGHBOUR: 'it returns false'. Refute it at one input. -/
def fnSeparatorWrong : ChangeSpec := { name := "fnSeparator", fn := fun _ => fun
  | [d1, d2, d3] => { results := [.lit (.bool false)], args := [d1, d2, d3] }
  | _ => none }
def FnSeparatorWrongFalsely : Prop := fnSeparatorRow.holds Tryd.pinned (OpenSpec.ofChange fnSeparatorWrong)

/-- 'laws.FnOrders': WHATEVER THE INPUT: true; the input reads as it did. -/
def fnOrdersSpec : ChangeSpec := { name := "fnOrders", fn := fun _ => fun
  | [d1, d2, d3, d4] => { results := [.lit (.bool true)], args := [d1, d2, d3, d4] }
  | _ => none }
def fnOrdersRow : OpenClaim := { program := "ytpdibidfjhjoeaadoor", sum := "eda1f96d88db1c88d0b372ad6d6b761a02d659b3cb6806a84c51078c7c3b0154", func := "pub-lockfold/laws.FnOrders", spec := "fnOrders", unfollowed := true, recurses := true, named := ["pub-lockfold/pub/goleveldb/leveldb/comparer.DefaultComparer"], apart := false, laid := [("pub-lockfold/pub/goleveldb/leveldb/comparer.DefaultComparer", laid_pub_lockfold_pub_goleveldb_leveldb_comparer_DefaultComparer)] }
def FnOrdersSaid : Prop := fnOrdersRow.holds Tryd.pinned (OpenSpec.ofChange fnOrdersSpec)

/-- ITS FALSE NEIGHBOUR: 'it returns false'. Refute it at one input. -/
def fnOrdersWrong : ChangeSpec := { name := "fnOrders", fn := fun _ => fun
  | [d1, d2, d3, d4] => { results := [.lit (.bool false)], args := [d1, d2, d3, d4] }
  | _ => none }
def FnOrdersWrongFalsely : Prop := fnOrdersRow.holds Tryd.pinned (OpenSpec.ofChange fnOrdersWrong)

/-- 'laws.FnIkeys': WHATEVER THE INPUT: true; the input reads as it did. -/
def fnIkeysSpec : ChangeSpec := { name := "fnIkeys", fn := fun _ => fun
  | [d1, d2, d3, d4, d5, d6] => { results := [.lit (.bool true)], args := [d1, d2, d3, d4, d5, d6] }
  | _ => none }
def fnIkeysRow : OpenClaim := { program := "ytpdibidfjhjoeaadoor", sum := "eda1f96d88db1c88d0b372ad6d6b761a02d659b3cb6806a84c51078c7c3b0154", func := "pub-lockfold/laws.FnIkeys", spec := "fnIkeys", unfollowed := true, recurses := true, named := ["encoding/binary.LittleEndian", "pub-lockfold/pub/goleveldb/leveldb/comparer.DefaultComparer"], apart := false, laid := [("pub-lockfold/pub/goleveldb/leveldb/comparer.DefaultComparer", laid_pub_lockfold_pub_goleveldb_leveldb_comparer_DefaultComparer)] }
def FnIkeysSaid : Prop := fnIkeysRow.holds Tryd.pinned (OpenSpec.ofChange fnIkeysSpec)

/-- ITS FALSE NEIGHBOUR: 'it returns false'. Refute it at one input. -/
def fnIkeysWrong : ChangeSpec := { name := "fnIkeys", fn := fun _ => fun
  | [d1, d2, d3, d4, d5, d6] => { results := [.lit (.bool false)], args := [d1, d2, d3, d4, d5, d6] }
  | _ => none }
def FnIkeysWrongFalsely : Prop := fnIkeysRow.holds Tryd.pinned (OpenSpec.ofChange fnIkeysWrong)

/-- 'laws.FnIkey': WHATEVER THE INPUT: true; the input reads as it did. -/
def fnIkeySpec : ChangeSpec := { name := "fnIkey", fn := fun _ => fun
  | [d1, d2, d3, d4] => { results := [.lit (.bool true)], args := [d1, d2, d3, d4] }
  | _ => none }
def fnIkeyRow : OpenClaim := { program := "ytpdibidfjhjoeaadoor", sum := "eda1f96d88db1c88d0b372ad6d6b761a02d659b3cb6806a84c51078c7c3b0154", func := "pub-lockfold/laws.FnIkey", spec := "fnIkey", unfollowed := true, recurses := true, named := ["encoding/binary.LittleEndian", "pub-lockfold/pub/goleveldb/leveldb/comparer.DefaultComparer"], apart := false, laid := [("pub-lockfold/pub/goleveldb/leveldb/comparer.DefaultComparer", laid_pub_lockfold_pub_goleveldb_leveldb_comparer_DefaultComparer)] }
def FnIkeySaid : Prop := fnIkeyRow.holds Tryd.pinned (OpenSpec.ofChange fnIkeySpec)

/-- ITS FALSE NEIGHBOUR: 'it returns false'. Refute it at one input. -/
def fnIkeyWrong : ChangeSpec := { name := "fnIkey", fn := fun _ => fun
  | [d1, d2, d3, d4] => { results := [.lit (.bool false)], args := [d1, d2, d3, d4] }
  | _ => none }
def FnIkeyWrongFalsely : Prop := fnIkeyRow.holds Tryd.pinned (OpenSpec.ofChange fnIkeyWrong)

/- THE SECOND FORM. 'bulk': how many values and letters a reading holds, each counted each time it is reached (what is shared counts as often as it is met; a slice's spare places count too). A statement '..UptoSaid' is the law's where the arguments, and the package variables that the reading takes, are together of bulk at most 1048576: NARROWER than '..Said'. Prove '..Said' where nothing that the law and all that it calls make is longer than what came in: it says more and counts as full. Else prove '..UptoSaid'. A law counts once. -/
mutual
def uptoBulk {H : Type} : DataW H → Nat
  | .lit (.string bytes) => bytes.length + 1
  | .lit _ => 1
  | .nil => 1
  | .ptr d => uptoBulk d + 1
  | .slice elems spare => uptoBulkAll elems + uptoBulkAll spare + 1
  | .agg parts => uptoBulkAll parts + 1
  | .iface _ d => uptoBulk d + 1
  | .map entries => uptoBulkEntries entries + 1
  | .held _ => 1
def uptoBulkAll {H : Type} : List (DataW H) → Nat
  | [] => 0
  | d :: r => uptoBulk d + uptoBulkAll r
def uptoBulkEntries {H : Type} : List (Lit × DataW H) → Nat
  | [] => 0
  | x :: r => uptoBulkEntry x + uptoBulkEntries r
def uptoBulkEntry {H : Type} : Lit × DataW H → Nat
  | (.string bytes, d) => bytes.length + uptoBulk d + 1
  | (_, d) => uptoBulk d + 1
 end
def uptoSmall : (H : Type) → List (DataW H) → Bool := fun _ ds => decide (uptoBulkAll ds ≤ 1048576)
def OpenSpec.upto (s : _root_.Go.ChangeSpec) : _root_.Go.OpenSpec := { _root_.Go.OpenSpec.ofChange s with cond := some uptoSmall }

/-- 'laws.FnSeparator', WHERE WHAT IT READS IS OF BULK AT MOST 1048576: true; the input reads as it did. -/
def fnSeparatorUptoRow : OpenClaim := { program := "ytpdibidfjhjoeaadoor", sum := "eda1f96d88db1c88d0b372ad6d6b761a02d659b3cb6806a84c51078c7c3b0154", func := "pub-lockfold/laws.FnSeparator", spec := "fnSeparator", unfollowed := true, recurses := true, named := ["pub-lockfold/pub/goleveldb/leveldb/comparer.DefaultComparer"], apart := false, laid := [("pub-lockfold/pub/goleveldb/leveldb/comparer.DefaultComparer", laid_pub_lockfold_pub_goleveldb_leveldb_comparer_DefaultComparer)], narrowed := true }
def FnSeparatorUptoSaid : Prop := fnSeparatorUptoRow.holds Tryd.pinned (OpenSpec.upto fnSeparatorSpec)

/-- 'laws.FnOrders', WHERE WHAT IT READS IS OF BULK AT MOST 1048576: true; the input reads as it did. -/
def fnOrdersUptoRow : OpenClaim := { program := "ytpdibidfjhjoeaadoor", sum := "eda1f96d88db1c88d0b372ad6d6b761a02d659b3cb6806a84c51078c7c3b0154", func := "pub-lockfold/laws.FnOrders", spec := "fnOrders", unfollowed := true, recurses := true, named := ["pub-lockfold/pub/goleveldb/leveldb/comparer.DefaultComparer"], apart := false, laid := [("pub-lockfold/pub/goleveldb/leveldb/comparer.DefaultComparer", laid_pub_lockfold_pub_goleveldb_leveldb_comparer_DefaultComparer)], narrowed := true }
def FnOrdersUptoSaid : Prop := fnOrdersUptoRow.holds Tryd.pinned (OpenSpec.upto fnOrdersSpec)

/-- 'laws.FnIkeys', WHERE WHAT IT READS IS OF BULK AT MOST 1048576: true; the input reads as it did. -/
def fnIkeysUptoRow : OpenClaim := { program := "ytpdibidfjhjoeaadoor", sum := "eda1f96d88db1c88d0b372ad6d6b761a02d659b3cb6806a84c51078c7c3b0154", func := "pub-lockfold/laws.FnIkeys", spec := "fnIkeys", unfollowed := true, recurses := true, named := ["encoding/binary.LittleEndian", "pub-lockfold/pub/goleveldb/leveldb/comparer.DefaultComparer"], apart := false, laid := [("pub-lockfold/pub/goleveldb/leveldb/comparer.DefaultComparer", laid_pub_lockfold_pub_goleveldb_leveldb_comparer_DefaultComparer)], narrowed := true }
def FnIkeysUptoSaid : Prop := fnIkeysUptoRow.holds Tryd.pinned (OpenSpec.upto fnIkeysSpec)

/-- 'laws.FnIkey', WHERE WHAT IT READS IS OF BULK AT MOST 1048576: true; the input reads as it did. -/
def fnIkeyUptoRow : OpenClaim := { program := "ytpdibidfjhjoeaadoor", sum := "eda1f96d88db1c88d0b372ad6d6b761a02d659b3cb6806a84c51078c7c3b0154", func := "pub-lockfold/laws.FnIkey", spec := "fnIkey", unfollowed := true, recurses := true, named := ["encoding/binary.LittleEndian", "pub-lockfold/pub/goleveldb/leveldb/comparer.DefaultComparer"], apart := false, laid := [("pub-lockfold/pub/goleveldb/leveldb/comparer.DefaultComparer", laid_pub_lockfold_pub_goleveldb_leveldb_comparer_DefaultComparer)], narrowed := true }
def FnIkeyUptoSaid : Prop := fnIkeyUptoRow.holds Tryd.pinned (OpenSpec.upto fnIkeySpec)

end Rows
end Go.Proofs.YtpdibidfjhjoeaaDoor
