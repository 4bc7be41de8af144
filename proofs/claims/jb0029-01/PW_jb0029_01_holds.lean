import PyProof.Rows.All
import Wide.All
import OpenK.AllK
import Wide.FinOn
import PySem.Challenge.RW_jb0029_01
open PySem PySem.W PyProof.Rows
set_option Elab.async false
set_option maxRecDepth 100000
set_option compiler.extract_closed false
set_option linter.unusedVariables false

section
namespace Mine
set_option maxHeartbeats 8000000

/-! the part of the heap that the walk knows whole: the defs' own texts are read off the program (by unification with its constant) -/
noncomputable def tst (i : Nat) : Stmt := PySem.Challenge.pw_jb0029_01.main.body.getD i (.Pass default)
noncomputable def cst (i j : Nat) : Stmt := match tst i with
  | .ClassDef _ _ _ body _ _ _ _ _ _ _ => body.getD j (.Pass default)
  | s => s
noncomputable def fdP : Stmt → Arguments
  | .FunctionDef _ p _ _ _ _ _ _ _ _ => p
  | _ => ⟨[], [], none, [], [], none, []⟩
noncomputable def fdB : Stmt → List Stmt
  | .FunctionDef _ _ b _ _ _ _ _ _ _ => b
  | _ => []
noncomputable def fdS : Stmt → Scope
  | .FunctionDef _ _ _ _ _ _ s _ _ _ => s
  | _ => default

noncomputable def K0 : Params → Frag := (fun (a21 : Arguments) (b21 : List Stmt) (s21 : Scope) (_ : fdP (tst 0) = a21 ∧ fdB (tst 0) = b21 ∧ fdS (tst 0) = s21) (a35 : Arguments) (b35 : List Stmt) (s35 : Scope) (_ : fdP (cst 2 0) = a35 ∧ fdB (cst 2 0) = b35 ∧ fdS (cst 2 0) = s35) (a42 : Arguments) (b42 : List Stmt) (s42 : Scope) (_ : fdP (cst 2 1) = a42 ∧ fdB (cst 2 1) = b42 ∧ fdS (cst 2 1) = s42) (a49 : Arguments) (b49 : List Stmt) (s49 : Scope) (_ : fdP (cst 2 2) = a49 ∧ fdB (cst 2 2) = b49 ∧ fdS (cst 2 2) = s49) (a71 : Arguments) (b71 : List Stmt) (s71 : Scope) (_ : fdP (cst 3 0) = a71 ∧ fdB (cst 3 0) = b71 ∧ fdS (cst 3 0) = s71) (a78 : Arguments) (b78 : List Stmt) (s78 : Scope) (_ : fdP (cst 3 1) = a78 ∧ fdB (cst 3 1) = b78 ∧ fdS (cst 3 1) = s78) (a86 : Arguments) (b86 : List Stmt) (s86 : Scope) (_ : fdP (cst 3 2) = a86 ∧ fdB (cst 3 2) = b86 ∧ fdS (cst 3 2) = s86) (a94 : Arguments) (b94 : List Stmt) (s94 : Scope) (_ : fdP (cst 3 3) = a94 ∧ fdB (cst 3 3) = b94 ∧ fdS (cst 3 3) = s94) (a102 : Arguments) (b102 : List Stmt) (s102 : Scope) (_ : fdP (cst 3 4) = a102 ∧ fdB (cst 3 4) = b102 ∧ fdS (cst 3 4) = s102) (a110 : Arguments) (b110 : List Stmt) (s110 : Scope) (_ : fdP (cst 3 5) = a110 ∧ fdB (cst 3 5) = b110 ∧ fdS (cst 3 5) = s110) (a118 : Arguments) (b118 : List Stmt) (s118 : Scope) (_ : fdP (cst 3 6) = a118 ∧ fdB (cst 3 6) = b118 ∧ fdS (cst 3 6) = s118) (a126 : Arguments) (b126 : List Stmt) (s126 : Scope) (_ : fdP (cst 3 7) = a126 ∧ fdB (cst 3 7) = b126 ∧ fdS (cst 3 7) = s126) (a134 : Arguments) (b134 : List Stmt) (s134 : Scope) (_ : fdP (cst 3 8) = a134 ∧ fdB (cst 3 8) = b134 ∧ fdS (cst 3 8) = s134) (a142 : Arguments) (b142 : List Stmt) (s142 : Scope) (_ : fdP (cst 3 9) = a142 ∧ fdB (cst 3 9) = b142 ∧ fdS (cst 3 9) = s142) (a149 : Arguments) (b149 : List Stmt) (s149 : Scope) (_ : fdP (cst 3 10) = a149 ∧ fdB (cst 3 10) = b149 ∧ fdS (cst 3 10) = s149) (a156 : Arguments) (b156 : List Stmt) (s156 : Scope) (_ : fdP (cst 3 11) = a156 ∧ fdB (cst 3 11) = b156 ∧ fdS (cst 3 11) = s156) (a163 : Arguments) (b163 : List Stmt) (s163 : Scope) (_ : fdP (cst 3 12) = a163 ∧ fdB (cst 3 12) = b163 ∧ fdS (cst 3 12) = s163) (a170 : Arguments) (b170 : List Stmt) (s170 : Scope) (_ : fdP (cst 3 13) = a170 ∧ fdB (cst 3 13) = b170 ∧ fdS (cst 3 13) = s170) (a177 : Arguments) (b177 : List Stmt) (s177 : Scope) (_ : fdP (cst 3 14) = a177 ∧ fdB (cst 3 14) = b177 ∧ fdS (cst 3 14) = s177) (a185 : Arguments) (b185 : List Stmt) (s185 : Scope) (_ : fdP (cst 3 15) = a185 ∧ fdB (cst 3 15) = b185 ∧ fdS (cst 3 15) = s185) (a193 : Arguments) (b193 : List Stmt) (s193 : Scope) (_ : fdP (cst 3 16) = a193 ∧ fdB (cst 3 16) = b193 ∧ fdS (cst 3 16) = s193) (a200 : Arguments) (b200 : List Stmt) (s200 : Scope) (_ : fdP (cst 3 17) = a200 ∧ fdB (cst 3 17) = b200 ∧ fdS (cst 3 17) = s200) (a214 : Arguments) (b214 : List Stmt) (s214 : Scope) (_ : fdP (tst 5) = a214 ∧ fdB (tst 5) = b214 ∧ fdS (tst 5) = s214) (a221 : Arguments) (b221 : List Stmt) (s221 : Scope) (_ : fdP (tst 6) = a221 ∧ fdB (tst 6) = b221 ∧ fdS (tst 6) = s221) (a228 : Arguments) (b228 : List Stmt) (s228 : Scope) (_ : fdP (tst 7) = a228 ∧ fdB (tst 7) = b228 ∧ fdS (tst 7) = s228) (a233 : Arguments) (b233 : List Stmt) (s233 : Scope) (_ : fdP (tst 8) = a233 ∧ fdB (tst 8) = b233 ∧ fdS (tst 8) = s233) (a240 : Arguments) (b240 : List Stmt) (s240 : Scope) (_ : fdP (tst 9) = a240 ∧ fdB (tst 9) = b240 ∧ fdS (tst 9) = s240) (a247 : Arguments) (b247 : List Stmt) (s247 : Scope) (_ : fdP (tst 10) = a247 ∧ fdB (tst 10) = b247 ∧ fdS (tst 10) = s247) (a252 : Arguments) (b252 : List Stmt) (s252 : Scope) (_ : fdP (tst 11) = a252 ∧ fdB (tst 11) = b252 ∧ fdS (tst 11) = s252) => (fun (P : Params) => (
((nat_lit 2), (@PySem.Obj.mk @PySem.Value.none (@Option.none.{0} @Nat) (@PySem.Data.dict (@List.toArray.{0} @PySem.DictEntry (@List.nil.{0} @PySem.DictEntry)) 0) (@List.toArray.{0} (@Option.{0} @PySem.Value) (@List.nil.{0} (@Option.{0} @PySem.Value))))) ::
((nat_lit 3), (@PySem.Obj.mk (@PySem.Value.type "dict") (@Option.none.{0} @Nat) (@PySem.Data.dict (@List.toArray.{0} @PySem.DictEntry (@List.cons.{0} @PySem.DictEntry (@PySem.DictEntry.mk (@PySem.PyData.keyHash P (@PySem.Str.ofString "__name__")) (@PySem.Value.str (@PySem.Str.ofString "__name__") 165) (@PySem.Value.str (@PySem.Str.ofString "law_jb0029_01") 427)) (@List.cons.{0} @PySem.DictEntry (@PySem.DictEntry.mk (@PySem.PyData.keyHash P (@PySem.Str.ofString "__doc__")) (@PySem.Value.str (@PySem.Str.ofString "__doc__") 166) @PySem.Value.none) (@List.cons.{0} @PySem.DictEntry (@PySem.DictEntry.mk (@PySem.PyData.keyHash P (@PySem.Str.ofString "__package__")) (@PySem.Value.str (@PySem.Str.ofString "__package__") 167) @PySem.Value.none) (@List.cons.{0} @PySem.DictEntry (@PySem.DictEntry.mk (@PySem.PyData.keyHash P (@PySem.Str.ofString "__loader__")) (@PySem.Value.str (@PySem.Str.ofString "__loader__") 168) (@PySem.Value.builtin "__main__.__loader__#opaque")) (@List.cons.{0} @PySem.DictEntry (@PySem.DictEntry.mk (@PySem.PyData.keyHash P (@PySem.Str.ofString "__spec__")) (@PySem.Value.str (@PySem.Str.ofString "__spec__") 169) @PySem.Value.none) (@List.cons.{0} @PySem.DictEntry (@PySem.DictEntry.mk (@PySem.PyData.keyHash P (@PySem.Str.ofString "__annotations__")) (@PySem.Value.str (@PySem.Str.ofString "__annotations__") 170) (@PySem.Value.ref 6)) (@List.cons.{0} @PySem.DictEntry (@PySem.DictEntry.mk (@PySem.PyData.keyHash P (@PySem.Str.ofString "__builtins__")) (@PySem.Value.str (@PySem.Str.ofString "__builtins__") 171) (@PySem.Value.ref 4)) (@List.cons.{0} @PySem.DictEntry (@PySem.DictEntry.mk (@PySem.PyData.keyHash P (@PySem.Str.ofString "__file__")) (@PySem.Value.str (@PySem.Str.ofString "__file__") 173) (@PySem.Value.str (@PySem.Str.ofString "/claim/cut.py") 172)) (@List.cons.{0} @PySem.DictEntry (@PySem.DictEntry.mk (@PySem.PyData.keyHash P (@PySem.Str.ofString "__cached__")) (@PySem.Value.str (@PySem.Str.ofString "__cached__") 174) @PySem.Value.none) (@List.cons.{0} @PySem.DictEntry (@PySem.DictEntry.mk (@PySem.PyData.keyHash P (@PySem.Str.ofString "_wall")) (@PySem.Value.str (@PySem.Str.ofString "_wall") 193) (@PySem.Value.ref 21)) (@List.cons.{0} @PySem.DictEntry (@PySem.DictEntry.mk (@PySem.PyData.keyHash P (@PySem.Str.ofString "Point")) (@PySem.Value.str (@PySem.Str.ofString "Point") 243) (@PySem.Value.ref 52)) (@List.cons.{0} @PySem.DictEntry (@PySem.DictEntry.mk (@PySem.PyData.keyHash P (@PySem.Str.ofString "Rectangle")) (@PySem.Value.str (@PySem.Str.ofString "Rectangle") 426) (@PySem.Value.ref 203)) (@List.cons.{0} @PySem.DictEntry (@PySem.DictEntry.mk (@PySem.PyData.keyHash P (@PySem.Str.ofString "_law_at")) (@PySem.Value.str (@PySem.Str.ofString "_law_at") 437) (@PySem.Value.ref 214)) (@List.cons.{0} @PySem.DictEntry (@PySem.DictEntry.mk (@PySem.PyData.keyHash P (@PySem.Str.ofString "_law_second")) (@PySem.Value.str (@PySem.Str.ofString "_law_second") 448) (@PySem.Value.ref 221)) (@List.cons.{0} @PySem.DictEntry (@PySem.DictEntry.mk (@PySem.PyData.keyHash P (@PySem.Str.ofString "_law_lines")) (@PySem.Value.str (@PySem.Str.ofString "_law_lines") 457) (@PySem.Value.ref 228)) (@List.cons.{0} @PySem.DictEntry (@PySem.DictEntry.mk (@PySem.PyData.keyHash P (@PySem.Str.ofString "_law_points")) (@PySem.Value.str (@PySem.Str.ofString "_law_points") 463) (@PySem.Value.ref 233)) (@List.cons.{0} @PySem.DictEntry (@PySem.DictEntry.mk (@PySem.PyData.keyHash P (@PySem.Str.ofString "_law_told")) (@PySem.Value.str (@PySem.Str.ofString "_law_told") 470) (@PySem.Value.ref 240)) (@List.cons.{0} @PySem.DictEntry (@PySem.DictEntry.mk (@PySem.PyData.keyHash P (@PySem.Str.ofString "_law_round")) (@PySem.Value.str (@PySem.Str.ofString "_law_round") 480) (@PySem.Value.ref 247)) (@List.cons.{0} @PySem.DictEntry (@PySem.DictEntry.mk (@PySem.PyData.keyHash P (@PySem.Str.ofString "law")) (@PySem.Value.str (@PySem.Str.ofString "law") 486) (@PySem.Value.ref 252)) (@List.nil.{0} @PySem.DictEntry))))))))))))))))))))) 19) (@List.toArray.{0} (@Option.{0} @PySem.Value) (@List.nil.{0} (@Option.{0} @PySem.Value))))) ::
((nat_lit 15), (@PySem.Obj.mk (@PySem.Value.type "tuple") (@Option.none.{0} @Nat) (@PySem.Data.seq (@List.toArray.{0} @PySem.Value (@List.nil.{0} @PySem.Value)) 0) (@List.toArray.{0} (@Option.{0} @PySem.Value) (@List.nil.{0} (@Option.{0} @PySem.Value))))) ::
((nat_lit 17), (@PySem.Obj.mk (@PySem.Value.type "tuple") (@Option.none.{0} @Nat) (@PySem.Data.seq (@List.toArray.{0} @PySem.Value (@List.cons.{0} @PySem.Value (@PySem.Value.str (@PySem.Str.ofString "k") 190) (@List.nil.{0} @PySem.Value))) 0) (@List.toArray.{0} (@Option.{0} @PySem.Value) (@List.nil.{0} (@Option.{0} @PySem.Value))))) ::
((nat_lit 18), (@PySem.Obj.mk (@PySem.Value.type "tuple") (@Option.none.{0} @Nat) (@PySem.Data.seq (@List.toArray.{0} @PySem.Value (@List.nil.{0} @PySem.Value)) 0) (@List.toArray.{0} (@Option.{0} @PySem.Value) (@List.nil.{0} (@Option.{0} @PySem.Value))))) ::
((nat_lit 20), (@PySem.Obj.mk (@PySem.Value.type "code") (@Option.none.{0} @Nat) (@PySem.Data.fields (@List.toArray.{0} @PySem.Value (@List.cons.{0} @PySem.Value (@PySem.Value.str (@PySem.Str.ofString "_wall") 187) (@List.cons.{0} @PySem.Value (@PySem.Value.str (@PySem.Str.ofString "_wall") 188) (@List.cons.{0} @PySem.Value (@PySem.Value.str (@PySem.Str.ofString "/claim/cut.py") 189) (@List.cons.{0} @PySem.Value (@PySem.Value.int (@OfNat.ofNat.{0} @Int (nat_lit 1) (@instOfNat (nat_lit 1))) 0) (@List.cons.{0} @PySem.Value (@PySem.Value.int (@OfNat.ofNat.{0} @Int (nat_lit 1) (@instOfNat (nat_lit 1))) 0) (@List.cons.{0} @PySem.Value (@PySem.Value.int (@OfNat.ofNat.{0} @Int (nat_lit 0) (@instOfNat (nat_lit 0))) 0) (@List.cons.{0} @PySem.Value (@PySem.Value.int (@OfNat.ofNat.{0} @Int (nat_lit 0) (@instOfNat (nat_lit 0))) 0) (@List.cons.{0} @PySem.Value (@PySem.Value.int (@OfNat.ofNat.{0} @Int (nat_lit 3) (@instOfNat (nat_lit 3))) 0) (@List.cons.{0} @PySem.Value (@PySem.Value.ref 15) (@List.cons.{0} @PySem.Value (@PySem.Value.bool @Bool.true) (@List.cons.{0} @PySem.Value (@PySem.Value.int (@OfNat.ofNat.{0} @Int (nat_lit 181) (@instOfNat (nat_lit 181))) 0) (@List.cons.{0} @PySem.Value (@PySem.Value.ref 16) (@List.cons.{0} @PySem.Value @PySem.Value.none (@List.cons.{0} @PySem.Value (@PySem.Value.ref 17) (@List.cons.{0} @PySem.Value (@PySem.Value.ref 18) (@List.cons.{0} @PySem.Value (@PySem.Value.ref 19) (@List.cons.{0} @PySem.Value (@PySem.Value.int (@OfNat.ofNat.{0} @Int (nat_lit 191) (@instOfNat (nat_lit 191))) 0) (@List.cons.{0} @PySem.Value (@PySem.Value.int (@OfNat.ofNat.{0} @Int (nat_lit 1) (@instOfNat (nat_lit 1))) 0) (@List.cons.{0} @PySem.Value (@PySem.Value.str (@PySem.Str.ofString "/claim/cut.py") 192) (@List.nil.{0} @PySem.Value)))))))))))))))))))))) (@List.toArray.{0} (@Option.{0} @PySem.Value) (@List.nil.{0} (@Option.{0} @PySem.Value))))) ::
((nat_lit 21), (@PySem.Obj.mk (@PySem.Value.type "function") (@Option.none.{0} @Nat) (@PySem.Data.func (@PySem.FuncData.mk (@PySem.Str.ofString "_wall") (@PySem.Str.ofString "_wall") a21 (@PySem.FuncBody.stmts b21) s21 3 (@List.nil.{0} (@Prod.{0, 0} @PySem.Str @Nat)) @PySem.Value.none @PySem.Value.none @PySem.Value.none (@PySem.Value.str (@PySem.Str.ofString "__main__") 164) (@Option.none.{0} @Nat) (@PySem.Value.ref 20) @PySem.Value.none 0)) (@List.toArray.{0} (@Option.{0} @PySem.Value) (@List.nil.{0} (@Option.{0} @PySem.Value))))) ::
((nat_lit 22), (@PySem.Obj.mk (@PySem.Value.type "tuple") (@Option.none.{0} @Nat) (@PySem.Data.seq (@List.toArray.{0} @PySem.Value (@List.cons.{0} @PySem.Value (@PySem.Value.type "object") (@List.nil.{0} @PySem.Value))) 0) (@List.toArray.{0} (@Option.{0} @PySem.Value) (@List.nil.{0} (@Option.{0} @PySem.Value))))) ::
((nat_lit 29), (@PySem.Obj.mk (@PySem.Value.type "tuple") (@Option.none.{0} @Nat) (@PySem.Data.seq (@List.toArray.{0} @PySem.Value (@List.nil.{0} @PySem.Value)) 0) (@List.toArray.{0} (@Option.{0} @PySem.Value) (@List.nil.{0} (@Option.{0} @PySem.Value))))) ::
((nat_lit 31), (@PySem.Obj.mk (@PySem.Value.type "tuple") (@Option.none.{0} @Nat) (@PySem.Data.seq (@List.toArray.{0} @PySem.Value (@List.cons.{0} @PySem.Value (@PySem.Value.str (@PySem.Str.ofString "self") 211) (@List.cons.{0} @PySem.Value (@PySem.Value.str (@PySem.Str.ofString "x") 212) (@List.cons.{0} @PySem.Value (@PySem.Value.str (@PySem.Str.ofString "y") 213) (@List.nil.{0} @PySem.Value))))) 0) (@List.toArray.{0} (@Option.{0} @PySem.Value) (@List.nil.{0} (@Option.{0} @PySem.Value))))) ::
((nat_lit 32), (@PySem.Obj.mk (@PySem.Value.type "tuple") (@Option.none.{0} @Nat) (@PySem.Data.seq (@List.toArray.{0} @PySem.Value (@List.nil.{0} @PySem.Value)) 0) (@List.toArray.{0} (@Option.{0} @PySem.Value) (@List.nil.{0} (@Option.{0} @PySem.Value))))) ::
((nat_lit 34), (@PySem.Obj.mk (@PySem.Value.type "code") (@Option.none.{0} @Nat) (@PySem.Data.fields (@List.toArray.{0} @PySem.Value (@List.cons.{0} @PySem.Value (@PySem.Value.str (@PySem.Str.ofString "__init__") 208) (@List.cons.{0} @PySem.Value (@PySem.Value.str (@PySem.Str.ofString "Point.__init__") 209) (@List.cons.{0} @PySem.Value (@PySem.Value.str (@PySem.Str.ofString "/claim/cut.py") 210) (@List.cons.{0} @PySem.Value (@PySem.Value.int (@OfNat.ofNat.{0} @Int (nat_lit 7) (@instOfNat (nat_lit 7))) 0) (@List.cons.{0} @PySem.Value (@PySem.Value.int (@OfNat.ofNat.{0} @Int (nat_lit 3) (@instOfNat (nat_lit 3))) 0) (@List.cons.{0} @PySem.Value (@PySem.Value.int (@OfNat.ofNat.{0} @Int (nat_lit 0) (@instOfNat (nat_lit 0))) 0) (@List.cons.{0} @PySem.Value (@PySem.Value.int (@OfNat.ofNat.{0} @Int (nat_lit 0) (@instOfNat (nat_lit 0))) 0) (@List.cons.{0} @PySem.Value (@PySem.Value.int (@OfNat.ofNat.{0} @Int (nat_lit 3) (@instOfNat (nat_lit 3))) 0) (@List.cons.{0} @PySem.Value (@PySem.Value.ref 29) (@List.cons.{0} @PySem.Value (@PySem.Value.bool @Bool.true) (@List.cons.{0} @PySem.Value (@PySem.Value.int (@OfNat.ofNat.{0} @Int (nat_lit 181) (@instOfNat (nat_lit 181))) 0) (@List.cons.{0} @PySem.Value (@PySem.Value.ref 30) (@List.cons.{0} @PySem.Value @PySem.Value.none (@List.cons.{0} @PySem.Value (@PySem.Value.ref 31) (@List.cons.{0} @PySem.Value (@PySem.Value.ref 32) (@List.cons.{0} @PySem.Value (@PySem.Value.ref 33) (@List.cons.{0} @PySem.Value (@PySem.Value.int (@OfNat.ofNat.{0} @Int (nat_lit 214) (@instOfNat (nat_lit 214))) 0) (@List.cons.{0} @PySem.Value (@PySem.Value.int (@OfNat.ofNat.{0} @Int (nat_lit 7) (@instOfNat (nat_lit 7))) 0) (@List.cons.{0} @PySem.Value (@PySem.Value.str (@PySem.Str.ofString "/claim/cut.py") 215) (@List.nil.{0} @PySem.Value)))))))))))))))))))))) (@List.toArray.{0} (@Option.{0} @PySem.Value) (@List.nil.{0} (@Option.{0} @PySem.Value))))) ::
((nat_lit 35), (@PySem.Obj.mk (@PySem.Value.type "function") (@Option.none.{0} @Nat) (@PySem.Data.func (@PySem.FuncData.mk (@PySem.Str.ofString "__init__") (@PySem.Str.ofString "Point.__init__") a35 (@PySem.FuncBody.stmts b35) s35 3 (@List.nil.{0} (@Prod.{0, 0} @PySem.Str @Nat)) @PySem.Value.none @PySem.Value.none @PySem.Value.none (@PySem.Value.str (@PySem.Str.ofString "rectpack.geometry") 194) (@Option.none.{0} @Nat) (@PySem.Value.ref 34) @PySem.Value.none 0)) (@List.toArray.{0} (@Option.{0} @PySem.Value) (@List.nil.{0} (@Option.{0} @PySem.Value))))) ::
((nat_lit 36), (@PySem.Obj.mk (@PySem.Value.type "tuple") (@Option.none.{0} @Nat) (@PySem.Data.seq (@List.toArray.{0} @PySem.Value (@List.nil.{0} @PySem.Value)) 0) (@List.toArray.{0} (@Option.{0} @PySem.Value) (@List.nil.{0} (@Option.{0} @PySem.Value))))) ::
((nat_lit 38), (@PySem.Obj.mk (@PySem.Value.type "tuple") (@Option.none.{0} @Nat) (@PySem.Data.seq (@List.toArray.{0} @PySem.Value (@List.cons.{0} @PySem.Value (@PySem.Value.str (@PySem.Str.ofString "self") 220) (@List.cons.{0} @PySem.Value (@PySem.Value.str (@PySem.Str.ofString "other") 221) (@List.nil.{0} @PySem.Value)))) 0) (@List.toArray.{0} (@Option.{0} @PySem.Value) (@List.nil.{0} (@Option.{0} @PySem.Value))))) ::
((nat_lit 39), (@PySem.Obj.mk (@PySem.Value.type "tuple") (@Option.none.{0} @Nat) (@PySem.Data.seq (@List.toArray.{0} @PySem.Value (@List.nil.{0} @PySem.Value)) 0) (@List.toArray.{0} (@Option.{0} @PySem.Value) (@List.nil.{0} (@Option.{0} @PySem.Value))))) ::
((nat_lit 41), (@PySem.Obj.mk (@PySem.Value.type "code") (@Option.none.{0} @Nat) (@PySem.Data.fields (@List.toArray.{0} @PySem.Value (@List.cons.{0} @PySem.Value (@PySem.Value.str (@PySem.Str.ofString "__eq__") 217) (@List.cons.{0} @PySem.Value (@PySem.Value.str (@PySem.Str.ofString "Point.__eq__") 218) (@List.cons.{0} @PySem.Value (@PySem.Value.str (@PySem.Str.ofString "/claim/cut.py") 219) (@List.cons.{0} @PySem.Value (@PySem.Value.int (@OfNat.ofNat.{0} @Int (nat_lit 11) (@instOfNat (nat_lit 11))) 0) (@List.cons.{0} @PySem.Value (@PySem.Value.int (@OfNat.ofNat.{0} @Int (nat_lit 2) (@instOfNat (nat_lit 2))) 0) (@List.cons.{0} @PySem.Value (@PySem.Value.int (@OfNat.ofNat.{0} @Int (nat_lit 0) (@instOfNat (nat_lit 0))) 0) (@List.cons.{0} @PySem.Value (@PySem.Value.int (@OfNat.ofNat.{0} @Int (nat_lit 0) (@instOfNat (nat_lit 0))) 0) (@List.cons.{0} @PySem.Value (@PySem.Value.int (@OfNat.ofNat.{0} @Int (nat_lit 3) (@instOfNat (nat_lit 3))) 0) (@List.cons.{0} @PySem.Value (@PySem.Value.ref 36) (@List.cons.{0} @PySem.Value (@PySem.Value.bool @Bool.true) (@List.cons.{0} @PySem.Value (@PySem.Value.int (@OfNat.ofNat.{0} @Int (nat_lit 181) (@instOfNat (nat_lit 181))) 0) (@List.cons.{0} @PySem.Value (@PySem.Value.ref 37) (@List.cons.{0} @PySem.Value @PySem.Value.none (@List.cons.{0} @PySem.Value (@PySem.Value.ref 38) (@List.cons.{0} @PySem.Value (@PySem.Value.ref 39) (@List.cons.{0} @PySem.Value (@PySem.Value.ref 40) (@List.cons.{0} @PySem.Value (@PySem.Value.int (@OfNat.ofNat.{0} @Int (nat_lit 222) (@instOfNat (nat_lit 222))) 0) (@List.cons.{0} @PySem.Value (@PySem.Value.int (@OfNat.ofNat.{0} @Int (nat_lit 11) (@instOfNat (nat_lit 11))) 0) (@List.cons.{0} @PySem.Value (@PySem.Value.str (@PySem.Str.ofString "/claim/cut.py") 223) (@List.nil.{0} @PySem.Value)))))))))))))))))))))) (@List.toArray.{0} (@Option.{0} @PySem.Value) (@List.nil.{0} (@Option.{0} @PySem.Value))))) ::
((nat_lit 42), (@PySem.Obj.mk (@PySem.Value.type "function") (@Option.none.{0} @Nat) (@PySem.Data.func (@PySem.FuncData.mk (@PySem.Str.ofString "__eq__") (@PySem.Str.ofString "Point.__eq__") a42 (@PySem.FuncBody.stmts b42) s42 3 (@List.nil.{0} (@Prod.{0, 0} @PySem.Str @Nat)) @PySem.Value.none @PySem.Value.none @PySem.Value.none (@PySem.Value.str (@PySem.Str.ofString "rectpack.geometry") 194) (@Option.none.{0} @Nat) (@PySem.Value.ref 41) @PySem.Value.none 0)) (@List.toArray.{0} (@Option.{0} @PySem.Value) (@List.nil.{0} (@Option.{0} @PySem.Value))))) ::
((nat_lit 43), (@PySem.Obj.mk (@PySem.Value.type "tuple") (@Option.none.{0} @Nat) (@PySem.Data.seq (@List.toArray.{0} @PySem.Value (@List.nil.{0} @PySem.Value)) 0) (@List.toArray.{0} (@Option.{0} @PySem.Value) (@List.nil.{0} (@Option.{0} @PySem.Value))))) ::
((nat_lit 45), (@PySem.Obj.mk (@PySem.Value.type "tuple") (@Option.none.{0} @Nat) (@PySem.Data.seq (@List.toArray.{0} @PySem.Value (@List.cons.{0} @PySem.Value (@PySem.Value.str (@PySem.Str.ofString "self") 228) (@List.cons.{0} @PySem.Value (@PySem.Value.str (@PySem.Str.ofString "point") 229) (@List.nil.{0} @PySem.Value)))) 0) (@List.toArray.{0} (@Option.{0} @PySem.Value) (@List.nil.{0} (@Option.{0} @PySem.Value))))) ::
((nat_lit 46), (@PySem.Obj.mk (@PySem.Value.type "tuple") (@Option.none.{0} @Nat) (@PySem.Data.seq (@List.toArray.{0} @PySem.Value (@List.nil.{0} @PySem.Value)) 0) (@List.toArray.{0} (@Option.{0} @PySem.Value) (@List.nil.{0} (@Option.{0} @PySem.Value))))) ::
((nat_lit 48), (@PySem.Obj.mk (@PySem.Value.type "code") (@Option.none.{0} @Nat) (@PySem.Data.fields (@List.toArray.{0} @PySem.Value (@List.cons.{0} @PySem.Value (@PySem.Value.str (@PySem.Str.ofString "distance_squared") 225) (@List.cons.{0} @PySem.Value (@PySem.Value.str (@PySem.Str.ofString "Point.distance_squared") 226) (@List.cons.{0} @PySem.Value (@PySem.Value.str (@PySem.Str.ofString "/claim/cut.py") 227) (@List.cons.{0} @PySem.Value (@PySem.Value.int (@OfNat.ofNat.{0} @Int (nat_lit 14) (@instOfNat (nat_lit 14))) 0) (@List.cons.{0} @PySem.Value (@PySem.Value.int (@OfNat.ofNat.{0} @Int (nat_lit 2) (@instOfNat (nat_lit 2))) 0) (@List.cons.{0} @PySem.Value (@PySem.Value.int (@OfNat.ofNat.{0} @Int (nat_lit 0) (@instOfNat (nat_lit 0))) 0) (@List.cons.{0} @PySem.Value (@PySem.Value.int (@OfNat.ofNat.{0} @Int (nat_lit 0) (@instOfNat (nat_lit 0))) 0) (@List.cons.{0} @PySem.Value (@PySem.Value.int (@OfNat.ofNat.{0} @Int (nat_lit 3) (@instOfNat (nat_lit 3))) 0) (@List.cons.{0} @PySem.Value (@PySem.Value.ref 43) (@List.cons.{0} @PySem.Value (@PySem.Value.bool @Bool.true) (@List.cons.{0} @PySem.Value (@PySem.Value.int (@OfNat.ofNat.{0} @Int (nat_lit 181) (@instOfNat (nat_lit 181))) 0) (@List.cons.{0} @PySem.Value (@PySem.Value.ref 44) (@List.cons.{0} @PySem.Value @PySem.Value.none (@List.cons.{0} @PySem.Value (@PySem.Value.ref 45) (@List.cons.{0} @PySem.Value (@PySem.Value.ref 46) (@List.cons.{0} @PySem.Value (@PySem.Value.ref 47) (@List.cons.{0} @PySem.Value (@PySem.Value.int (@OfNat.ofNat.{0} @Int (nat_lit 230) (@instOfNat (nat_lit 230))) 0) (@List.cons.{0} @PySem.Value (@PySem.Value.int (@OfNat.ofNat.{0} @Int (nat_lit 14) (@instOfNat (nat_lit 14))) 0) (@List.cons.{0} @PySem.Value (@PySem.Value.str (@PySem.Str.ofString "/claim/cut.py") 231) (@List.nil.{0} @PySem.Value)))))))))))))))))))))) (@List.toArray.{0} (@Option.{0} @PySem.Value) (@List.nil.{0} (@Option.{0} @PySem.Value))))) ::
((nat_lit 49), (@PySem.Obj.mk (@PySem.Value.type "function") (@Option.none.{0} @Nat) (@PySem.Data.func (@PySem.FuncData.mk (@PySem.Str.ofString "distance_squared") (@PySem.Str.ofString "Point.distance_squared") a49 (@PySem.FuncBody.stmts b49) s49 3 (@List.nil.{0} (@Prod.{0, 0} @PySem.Str @Nat)) @PySem.Value.none @PySem.Value.none @PySem.Value.none (@PySem.Value.str (@PySem.Str.ofString "rectpack.geometry") 194) (@Option.none.{0} @Nat) (@PySem.Value.ref 48) @PySem.Value.none 0)) (@List.toArray.{0} (@Option.{0} @PySem.Value) (@List.nil.{0} (@Option.{0} @PySem.Value))))) ::
((nat_lit 50), (@PySem.Obj.mk (@PySem.Value.type "tuple") (@Option.none.{0} @Nat) (@PySem.Data.seq (@List.toArray.{0} @PySem.Value (@List.cons.{0} @PySem.Value (@PySem.Value.str (@PySem.Str.ofString "x") 233) (@List.cons.{0} @PySem.Value (@PySem.Value.str (@PySem.Str.ofString "y") 234) (@List.nil.{0} @PySem.Value)))) 0) (@List.toArray.{0} (@Option.{0} @PySem.Value) (@List.nil.{0} (@Option.{0} @PySem.Value))))) ::
((nat_lit 51), (@PySem.Obj.mk (@PySem.Value.type "dict") (@Option.none.{0} @Nat) (@PySem.Data.dict (@List.toArray.{0} @PySem.DictEntry (@List.cons.{0} @PySem.DictEntry (@PySem.DictEntry.mk (@PySem.PyData.keyHash P (@PySem.Str.ofString "__module__")) (@PySem.Value.str (@PySem.Str.ofString "__module__") 203) (@PySem.Value.str (@PySem.Str.ofString "rectpack.geometry") 194)) (@List.cons.{0} @PySem.DictEntry (@PySem.DictEntry.mk (@PySem.PyData.keyHash P (@PySem.Str.ofString "__firstlineno__")) (@PySem.Value.str (@PySem.Str.ofString "__firstlineno__") 207) (@PySem.Value.int (@OfNat.ofNat.{0} @Int (nat_lit 5) (@instOfNat (nat_lit 5))) 206)) (@List.cons.{0} @PySem.DictEntry (@PySem.DictEntry.mk (@PySem.PyData.keyHash P (@PySem.Str.ofString "__init__")) (@PySem.Value.str (@PySem.Str.ofString "__init__") 216) (@PySem.Value.ref 35)) (@List.cons.{0} @PySem.DictEntry (@PySem.DictEntry.mk (@PySem.PyData.keyHash P (@PySem.Str.ofString "__eq__")) (@PySem.Value.str (@PySem.Str.ofString "__eq__") 224) (@PySem.Value.ref 42)) (@List.cons.{0} @PySem.DictEntry (@PySem.DictEntry.mk (@PySem.PyData.keyHash P (@PySem.Str.ofString "distance_squared")) (@PySem.Value.str (@PySem.Str.ofString "distance_squared") 232) (@PySem.Value.ref 49)) (@List.cons.{0} @PySem.DictEntry (@PySem.DictEntry.mk (@PySem.PyData.keyHash P (@PySem.Str.ofString "__static_attributes__")) (@PySem.Value.str (@PySem.Str.ofString "__static_attributes__") 235) (@PySem.Value.ref 50)) (@List.cons.{0} @PySem.DictEntry (@PySem.DictEntry.mk (@PySem.PyData.keyHash P (@PySem.Str.ofString "__dict__")) (@PySem.Value.str (@PySem.Str.ofString "__dict__") 237) (@PySem.Value.ref 53)) (@List.cons.{0} @PySem.DictEntry (@PySem.DictEntry.mk (@PySem.PyData.keyHash P (@PySem.Str.ofString "__weakref__")) (@PySem.Value.str (@PySem.Str.ofString "__weakref__") 239) (@PySem.Value.ref 54)) (@List.cons.{0} @PySem.DictEntry (@PySem.DictEntry.mk (@PySem.PyData.keyHash P (@PySem.Str.ofString "__doc__")) (@PySem.Value.str (@PySem.Str.ofString "__doc__") 240) @PySem.Value.none) (@List.cons.{0} @PySem.DictEntry (@PySem.DictEntry.mk (@PySem.PyData.keyHash P (@PySem.Str.ofString "__hash__")) (@PySem.Value.str (@PySem.Str.ofString "__hash__") 241) @PySem.Value.none) (@List.nil.{0} @PySem.DictEntry)))))))))))) 5) (@List.toArray.{0} (@Option.{0} @PySem.Value) (@List.nil.{0} (@Option.{0} @PySem.Value))))) ::
((nat_lit 52), (@PySem.Obj.mk (@PySem.Value.type "type") (@Option.none.{0} @Nat) (@PySem.Data.cls (@PySem.ClassData.mk (@PySem.Str.ofString "Point") (@List.cons.{0} @PySem.Value (@PySem.Value.type "object") (@List.nil.{0} @PySem.Value)) (@List.cons.{0} @PySem.Value (@PySem.Value.ref 52) (@List.cons.{0} @PySem.Value (@PySem.Value.type "object") (@List.nil.{0} @PySem.Value))) 51 (@PySem.Str.ofString "Point") @Bool.true (@List.nil.{0} @PySem.Str) (@List.nil.{0} @PySem.Value) @Bool.false (@Option.none.{0} @Bool) @Bool.false)) (@List.toArray.{0} (@Option.{0} @PySem.Value) (@List.cons.{0} (@Option.{0} @PySem.Value) (@Option.some.{0} @PySem.Value (@PySem.Value.ref 22)) (@List.cons.{0} (@Option.{0} @PySem.Value) (@Option.none.{0} @PySem.Value) (@List.cons.{0} (@Option.{0} @PySem.Value) (@Option.some.{0} @PySem.Value (@PySem.Value.str (@PySem.Str.ofString "Point") 196)) (@List.cons.{0} (@Option.{0} @PySem.Value) (@Option.some.{0} @PySem.Value (@PySem.Value.str (@PySem.Str.ofString "Point") 204)) (@List.cons.{0} (@Option.{0} @PySem.Value) (@Option.some.{0} @PySem.Value (@PySem.Value.builtin "object.__new__")) (@List.cons.{0} (@Option.{0} @PySem.Value) (@Option.some.{0} @PySem.Value (@PySem.Value.bool @Bool.true)) (@List.nil.{0} (@Option.{0} @PySem.Value))))))))))) ::
((nat_lit 53), (@PySem.Obj.mk (@PySem.Value.type "getset_descriptor") (@Option.none.{0} @Nat) (@PySem.Data.fields (@List.toArray.{0} @PySem.Value (@List.cons.{0} @PySem.Value (@PySem.Value.str (@PySem.Str.ofString "__dict__") 236) (@List.cons.{0} @PySem.Value (@PySem.Value.ref 52) (@List.cons.{0} @PySem.Value (@PySem.Value.builtin "function.__dict__") (@List.cons.{0} @PySem.Value (@PySem.Value.builtin "function.__dict__#set") (@List.nil.{0} @PySem.Value))))))) (@List.toArray.{0} (@Option.{0} @PySem.Value) (@List.nil.{0} (@Option.{0} @PySem.Value))))) ::
((nat_lit 54), (@PySem.Obj.mk (@PySem.Value.type "getset_descriptor") (@Option.none.{0} @Nat) (@PySem.Data.fields (@List.toArray.{0} @PySem.Value (@List.cons.{0} @PySem.Value (@PySem.Value.str (@PySem.Str.ofString "__weakref__") 238) (@List.cons.{0} @PySem.Value (@PySem.Value.ref 52) (@List.cons.{0} @PySem.Value (@PySem.Value.builtin "ExceptionGroup.__weakref__") (@List.cons.{0} @PySem.Value @PySem.Value.none (@List.nil.{0} @PySem.Value))))))) (@List.toArray.{0} (@Option.{0} @PySem.Value) (@List.nil.{0} (@Option.{0} @PySem.Value))))) ::
((nat_lit 57), (@PySem.Obj.mk (@PySem.Value.type "tuple") (@Option.none.{0} @Nat) (@PySem.Data.seq (@List.toArray.{0} @PySem.Value (@List.cons.{0} @PySem.Value (@PySem.Value.type "object") (@List.nil.{0} @PySem.Value))) 0) (@List.toArray.{0} (@Option.{0} @PySem.Value) (@List.nil.{0} (@Option.{0} @PySem.Value))))) ::
((nat_lit 64), (@PySem.Obj.mk (@PySem.Value.type "tuple") (@Option.none.{0} @Nat) (@PySem.Data.seq (@List.toArray.{0} @PySem.Value (@List.cons.{0} @PySem.Value @PySem.Value.none (@List.nil.{0} @PySem.Value))) 0) (@List.toArray.{0} (@Option.{0} @PySem.Value) (@List.nil.{0} (@Option.{0} @PySem.Value))))) ::
((nat_lit 65), (@PySem.Obj.mk (@PySem.Value.type "tuple") (@Option.none.{0} @Nat) (@PySem.Data.seq (@List.toArray.{0} @PySem.Value (@List.nil.{0} @PySem.Value)) 0) (@List.toArray.{0} (@Option.{0} @PySem.Value) (@List.nil.{0} (@Option.{0} @PySem.Value))))) ::
((nat_lit 67), (@PySem.Obj.mk (@PySem.Value.type "tuple") (@Option.none.{0} @Nat) (@PySem.Data.seq (@List.toArray.{0} @PySem.Value (@List.cons.{0} @PySem.Value (@PySem.Value.str (@PySem.Str.ofString "self") 259) (@List.cons.{0} @PySem.Value (@PySem.Value.str (@PySem.Str.ofString "x") 260) (@List.cons.{0} @PySem.Value (@PySem.Value.str (@PySem.Str.ofString "y") 261) (@List.cons.{0} @PySem.Value (@PySem.Value.str (@PySem.Str.ofString "width") 262) (@List.cons.{0} @PySem.Value (@PySem.Value.str (@PySem.Str.ofString "height") 263) (@List.cons.{0} @PySem.Value (@PySem.Value.str (@PySem.Str.ofString "rid") 264) (@List.nil.{0} @PySem.Value)))))))) 0) (@List.toArray.{0} (@Option.{0} @PySem.Value) (@List.nil.{0} (@Option.{0} @PySem.Value))))) ::
((nat_lit 68), (@PySem.Obj.mk (@PySem.Value.type "tuple") (@Option.none.{0} @Nat) (@PySem.Data.seq (@List.toArray.{0} @PySem.Value (@List.nil.{0} @PySem.Value)) 0) (@List.toArray.{0} (@Option.{0} @PySem.Value) (@List.nil.{0} (@Option.{0} @PySem.Value))))) ::
((nat_lit 70), (@PySem.Obj.mk (@PySem.Value.type "code") (@Option.none.{0} @Nat) (@PySem.Data.fields (@List.toArray.{0} @PySem.Value (@List.cons.{0} @PySem.Value (@PySem.Value.str (@PySem.Str.ofString "__init__") 256) (@List.cons.{0} @PySem.Value (@PySem.Value.str (@PySem.Str.ofString "Rectangle.__init__") 257) (@List.cons.{0} @PySem.Value (@PySem.Value.str (@PySem.Str.ofString "/claim/cut.py") 258) (@List.cons.{0} @PySem.Value (@PySem.Value.int (@OfNat.ofNat.{0} @Int (nat_lit 18) (@instOfNat (nat_lit 18))) 0) (@List.cons.{0} @PySem.Value (@PySem.Value.int (@OfNat.ofNat.{0} @Int (nat_lit 6) (@instOfNat (nat_lit 6))) 0) (@List.cons.{0} @PySem.Value (@PySem.Value.int (@OfNat.ofNat.{0} @Int (nat_lit 0) (@instOfNat (nat_lit 0))) 0) (@List.cons.{0} @PySem.Value (@PySem.Value.int (@OfNat.ofNat.{0} @Int (nat_lit 0) (@instOfNat (nat_lit 0))) 0) (@List.cons.{0} @PySem.Value (@PySem.Value.int (@OfNat.ofNat.{0} @Int (nat_lit 3) (@instOfNat (nat_lit 3))) 0) (@List.cons.{0} @PySem.Value (@PySem.Value.ref 65) (@List.cons.{0} @PySem.Value (@PySem.Value.bool @Bool.true) (@List.cons.{0} @PySem.Value (@PySem.Value.int (@OfNat.ofNat.{0} @Int (nat_lit 181) (@instOfNat (nat_lit 181))) 0) (@List.cons.{0} @PySem.Value (@PySem.Value.ref 66) (@List.cons.{0} @PySem.Value @PySem.Value.none (@List.cons.{0} @PySem.Value (@PySem.Value.ref 67) (@List.cons.{0} @PySem.Value (@PySem.Value.ref 68) (@List.cons.{0} @PySem.Value (@PySem.Value.ref 69) (@List.cons.{0} @PySem.Value (@PySem.Value.int (@OfNat.ofNat.{0} @Int (nat_lit 265) (@instOfNat (nat_lit 265))) 0) (@List.cons.{0} @PySem.Value (@PySem.Value.int (@OfNat.ofNat.{0} @Int (nat_lit 18) (@instOfNat (nat_lit 18))) 0) (@List.cons.{0} @PySem.Value (@PySem.Value.str (@PySem.Str.ofString "/claim/cut.py") 266) (@List.nil.{0} @PySem.Value)))))))))))))))))))))) (@List.toArray.{0} (@Option.{0} @PySem.Value) (@List.nil.{0} (@Option.{0} @PySem.Value))))) ::
((nat_lit 71), (@PySem.Obj.mk (@PySem.Value.type "function") (@Option.none.{0} @Nat) (@PySem.Data.func (@PySem.FuncData.mk (@PySem.Str.ofString "__init__") (@PySem.Str.ofString "Rectangle.__init__") a71 (@PySem.FuncBody.stmts b71) s71 3 (@List.nil.{0} (@Prod.{0, 0} @PySem.Str @Nat)) (@PySem.Value.ref 64) @PySem.Value.none @PySem.Value.none (@PySem.Value.str (@PySem.Str.ofString "rectpack.geometry") 194) (@Option.none.{0} @Nat) (@PySem.Value.ref 70) @PySem.Value.none 0)) (@List.toArray.{0} (@Option.{0} @PySem.Value) (@List.nil.{0} (@Option.{0} @PySem.Value))))) ::
((nat_lit 72), (@PySem.Obj.mk (@PySem.Value.type "tuple") (@Option.none.{0} @Nat) (@PySem.Data.seq (@List.toArray.{0} @PySem.Value (@List.nil.{0} @PySem.Value)) 0) (@List.toArray.{0} (@Option.{0} @PySem.Value) (@List.nil.{0} (@Option.{0} @PySem.Value))))) ::
((nat_lit 74), (@PySem.Obj.mk (@PySem.Value.type "tuple") (@Option.none.{0} @Nat) (@PySem.Data.seq (@List.toArray.{0} @PySem.Value (@List.cons.{0} @PySem.Value (@PySem.Value.str (@PySem.Str.ofString "self") 271) (@List.nil.{0} @PySem.Value))) 0) (@List.toArray.{0} (@Option.{0} @PySem.Value) (@List.nil.{0} (@Option.{0} @PySem.Value))))) ::
((nat_lit 75), (@PySem.Obj.mk (@PySem.Value.type "tuple") (@Option.none.{0} @Nat) (@PySem.Data.seq (@List.toArray.{0} @PySem.Value (@List.nil.{0} @PySem.Value)) 0) (@List.toArray.{0} (@Option.{0} @PySem.Value) (@List.nil.{0} (@Option.{0} @PySem.Value))))) ::
((nat_lit 77), (@PySem.Obj.mk (@PySem.Value.type "code") (@Option.none.{0} @Nat) (@PySem.Data.fields (@List.toArray.{0} @PySem.Value (@List.cons.{0} @PySem.Value (@PySem.Value.str (@PySem.Str.ofString "bottom") 268) (@List.cons.{0} @PySem.Value (@PySem.Value.str (@PySem.Str.ofString "Rectangle.bottom") 269) (@List.cons.{0} @PySem.Value (@PySem.Value.str (@PySem.Str.ofString "/claim/cut.py") 270) (@List.cons.{0} @PySem.Value (@PySem.Value.int (@OfNat.ofNat.{0} @Int (nat_lit 26) (@instOfNat (nat_lit 26))) 0) (@List.cons.{0} @PySem.Value (@PySem.Value.int (@OfNat.ofNat.{0} @Int (nat_lit 1) (@instOfNat (nat_lit 1))) 0) (@List.cons.{0} @PySem.Value (@PySem.Value.int (@OfNat.ofNat.{0} @Int (nat_lit 0) (@instOfNat (nat_lit 0))) 0) (@List.cons.{0} @PySem.Value (@PySem.Value.int (@OfNat.ofNat.{0} @Int (nat_lit 0) (@instOfNat (nat_lit 0))) 0) (@List.cons.{0} @PySem.Value (@PySem.Value.int (@OfNat.ofNat.{0} @Int (nat_lit 3) (@instOfNat (nat_lit 3))) 0) (@List.cons.{0} @PySem.Value (@PySem.Value.ref 72) (@List.cons.{0} @PySem.Value (@PySem.Value.bool @Bool.true) (@List.cons.{0} @PySem.Value (@PySem.Value.int (@OfNat.ofNat.{0} @Int (nat_lit 181) (@instOfNat (nat_lit 181))) 0) (@List.cons.{0} @PySem.Value (@PySem.Value.ref 73) (@List.cons.{0} @PySem.Value @PySem.Value.none (@List.cons.{0} @PySem.Value (@PySem.Value.ref 74) (@List.cons.{0} @PySem.Value (@PySem.Value.ref 75) (@List.cons.{0} @PySem.Value (@PySem.Value.ref 76) (@List.cons.{0} @PySem.Value (@PySem.Value.int (@OfNat.ofNat.{0} @Int (nat_lit 272) (@instOfNat (nat_lit 272))) 0) (@List.cons.{0} @PySem.Value (@PySem.Value.int (@OfNat.ofNat.{0} @Int (nat_lit 26) (@instOfNat (nat_lit 26))) 0) (@List.cons.{0} @PySem.Value (@PySem.Value.str (@PySem.Str.ofString "/claim/cut.py") 273) (@List.nil.{0} @PySem.Value)))))))))))))))))))))) (@List.toArray.{0} (@Option.{0} @PySem.Value) (@List.nil.{0} (@Option.{0} @PySem.Value))))) ::
((nat_lit 78), (@PySem.Obj.mk (@PySem.Value.type "function") (@Option.none.{0} @Nat) (@PySem.Data.func (@PySem.FuncData.mk (@PySem.Str.ofString "bottom") (@PySem.Str.ofString "Rectangle.bottom") a78 (@PySem.FuncBody.stmts b78) s78 3 (@List.nil.{0} (@Prod.{0, 0} @PySem.Str @Nat)) @PySem.Value.none @PySem.Value.none @PySem.Value.none (@PySem.Value.str (@PySem.Str.ofString "rectpack.geometry") 194) (@Option.none.{0} @Nat) (@PySem.Value.ref 77) @PySem.Value.none 0)) (@List.toArray.{0} (@Option.{0} @PySem.Value) (@List.nil.{0} (@Option.{0} @PySem.Value))))) ::
((nat_lit 79), (@PySem.Obj.mk (@PySem.Value.type "property") (@Option.none.{0} @Nat) (@PySem.Data.fields (@List.toArray.{0} @PySem.Value (@List.cons.{0} @PySem.Value (@PySem.Value.ref 78) (@List.cons.{0} @PySem.Value @PySem.Value.none (@List.cons.{0} @PySem.Value @PySem.Value.none (@List.cons.{0} @PySem.Value @PySem.Value.none (@List.cons.{0} @PySem.Value (@PySem.Value.str (@PySem.Str.ofString "bottom") 275) (@List.cons.{0} @PySem.Value (@PySem.Value.bool @Bool.false) (@List.nil.{0} @PySem.Value))))))))) (@List.toArray.{0} (@Option.{0} @PySem.Value) (@List.nil.{0} (@Option.{0} @PySem.Value))))) ::
((nat_lit 80), (@PySem.Obj.mk (@PySem.Value.type "tuple") (@Option.none.{0} @Nat) (@PySem.Data.seq (@List.toArray.{0} @PySem.Value (@List.nil.{0} @PySem.Value)) 0) (@List.toArray.{0} (@Option.{0} @PySem.Value) (@List.nil.{0} (@Option.{0} @PySem.Value))))) ::
((nat_lit 82), (@PySem.Obj.mk (@PySem.Value.type "tuple") (@Option.none.{0} @Nat) (@PySem.Data.seq (@List.toArray.{0} @PySem.Value (@List.cons.{0} @PySem.Value (@PySem.Value.str (@PySem.Str.ofString "self") 279) (@List.nil.{0} @PySem.Value))) 0) (@List.toArray.{0} (@Option.{0} @PySem.Value) (@List.nil.{0} (@Option.{0} @PySem.Value))))) ::
((nat_lit 83), (@PySem.Obj.mk (@PySem.Value.type "tuple") (@Option.none.{0} @Nat) (@PySem.Data.seq (@List.toArray.{0} @PySem.Value (@List.nil.{0} @PySem.Value)) 0) (@List.toArray.{0} (@Option.{0} @PySem.Value) (@List.nil.{0} (@Option.{0} @PySem.Value))))) ::
((nat_lit 85), (@PySem.Obj.mk (@PySem.Value.type "code") (@Option.none.{0} @Nat) (@PySem.Data.fields (@List.toArray.{0} @PySem.Value (@List.cons.{0} @PySem.Value (@PySem.Value.str (@PySem.Str.ofString "top") 276) (@List.cons.{0} @PySem.Value (@PySem.Value.str (@PySem.Str.ofString "Rectangle.top") 277) (@List.cons.{0} @PySem.Value (@PySem.Value.str (@PySem.Str.ofString "/claim/cut.py") 278) (@List.cons.{0} @PySem.Value (@PySem.Value.int (@OfNat.ofNat.{0} @Int (nat_lit 30) (@instOfNat (nat_lit 30))) 0) (@List.cons.{0} @PySem.Value (@PySem.Value.int (@OfNat.ofNat.{0} @Int (nat_lit 1) (@instOfNat (nat_lit 1))) 0) (@List.cons.{0} @PySem.Value (@PySem.Value.int (@OfNat.ofNat.{0} @Int (nat_lit 0) (@instOfNat (nat_lit 0))) 0) (@List.cons.{0} @PySem.Value (@PySem.Value.int (@OfNat.ofNat.{0} @Int (nat_lit 0) (@instOfNat (nat_lit 0))) 0) (@List.cons.{0} @PySem.Value (@PySem.Value.int (@OfNat.ofNat.{0} @Int (nat_lit 3) (@instOfNat (nat_lit 3))) 0) (@List.cons.{0} @PySem.Value (@PySem.Value.ref 80) (@List.cons.{0} @PySem.Value (@PySem.Value.bool @Bool.true) (@List.cons.{0} @PySem.Value (@PySem.Value.int (@OfNat.ofNat.{0} @Int (nat_lit 181) (@instOfNat (nat_lit 181))) 0) (@List.cons.{0} @PySem.Value (@PySem.Value.ref 81) (@List.cons.{0} @PySem.Value @PySem.Value.none (@List.cons.{0} @PySem.Value (@PySem.Value.ref 82) (@List.cons.{0} @PySem.Value (@PySem.Value.ref 83) (@List.cons.{0} @PySem.Value (@PySem.Value.ref 84) (@List.cons.{0} @PySem.Value (@PySem.Value.int (@OfNat.ofNat.{0} @Int (nat_lit 280) (@instOfNat (nat_lit 280))) 0) (@List.cons.{0} @PySem.Value (@PySem.Value.int (@OfNat.ofNat.{0} @Int (nat_lit 30) (@instOfNat (nat_lit 30))) 0) (@List.cons.{0} @PySem.Value (@PySem.Value.str (@PySem.Str.ofString "/claim/cut.py") 281) (@List.nil.{0} @PySem.Value)))))))))))))))))))))) (@List.toArray.{0} (@Option.{0} @PySem.Value) (@List.nil.{0} (@Option.{0} @PySem.Value))))) ::
((nat_lit 86), (@PySem.Obj.mk (@PySem.Value.type "function") (@Option.none.{0} @Nat) (@PySem.Data.func (@PySem.FuncData.mk (@PySem.Str.ofString "top") (@PySem.Str.ofString "Rectangle.top") a86 (@PySem.FuncBody.stmts b86) s86 3 (@List.nil.{0} (@Prod.{0, 0} @PySem.Str @Nat)) @PySem.Value.none @PySem.Value.none @PySem.Value.none (@PySem.Value.str (@PySem.Str.ofString "rectpack.geometry") 194) (@Option.none.{0} @Nat) (@PySem.Value.ref 85) @PySem.Value.none 0)) (@List.toArray.{0} (@Option.{0} @PySem.Value) (@List.nil.{0} (@Option.{0} @PySem.Value))))) ::
((nat_lit 87), (@PySem.Obj.mk (@PySem.Value.type "property") (@Option.none.{0} @Nat) (@PySem.Data.fields (@List.toArray.{0} @PySem.Value (@List.cons.{0} @PySem.Value (@PySem.Value.ref 86) (@List.cons.{0} @PySem.Value @PySem.Value.none (@List.cons.{0} @PySem.Value @PySem.Value.none (@List.cons.{0} @PySem.Value @PySem.Value.none (@List.cons.{0} @PySem.Value (@PySem.Value.str (@PySem.Str.ofString "top") 283) (@List.cons.{0} @PySem.Value (@PySem.Value.bool @Bool.false) (@List.nil.{0} @PySem.Value))))))))) (@List.toArray.{0} (@Option.{0} @PySem.Value) (@List.nil.{0} (@Option.{0} @PySem.Value))))) ::
((nat_lit 88), (@PySem.Obj.mk (@PySem.Value.type "tuple") (@Option.none.{0} @Nat) (@PySem.Data.seq (@List.toArray.{0} @PySem.Value (@List.nil.{0} @PySem.Value)) 0) (@List.toArray.{0} (@Option.{0} @PySem.Value) (@List.nil.{0} (@Option.{0} @PySem.Value))))) ::
((nat_lit 90), (@PySem.Obj.mk (@PySem.Value.type "tuple") (@Option.none.{0} @Nat) (@PySem.Data.seq (@List.toArray.{0} @PySem.Value (@List.cons.{0} @PySem.Value (@PySem.Value.str (@PySem.Str.ofString "self") 287) (@List.nil.{0} @PySem.Value))) 0) (@List.toArray.{0} (@Option.{0} @PySem.Value) (@List.nil.{0} (@Option.{0} @PySem.Value))))) ::
((nat_lit 91), (@PySem.Obj.mk (@PySem.Value.type "tuple") (@Option.none.{0} @Nat) (@PySem.Data.seq (@List.toArray.{0} @PySem.Value (@List.nil.{0} @PySem.Value)) 0) (@List.toArray.{0} (@Option.{0} @PySem.Value) (@List.nil.{0} (@Option.{0} @PySem.Value))))) ::
((nat_lit 93), (@PySem.Obj.mk (@PySem.Value.type "code") (@Option.none.{0} @Nat) (@PySem.Data.fields (@List.toArray.{0} @PySem.Value (@List.cons.{0} @PySem.Value (@PySem.Value.str (@PySem.Str.ofString "left") 284) (@List.cons.{0} @PySem.Value (@PySem.Value.str (@PySem.Str.ofString "Rectangle.left") 285) (@List.cons.{0} @PySem.Value (@PySem.Value.str (@PySem.Str.ofString "/claim/cut.py") 286) (@List.cons.{0} @PySem.Value (@PySem.Value.int (@OfNat.ofNat.{0} @Int (nat_lit 34) (@instOfNat (nat_lit 34))) 0) (@List.cons.{0} @PySem.Value (@PySem.Value.int (@OfNat.ofNat.{0} @Int (nat_lit 1) (@instOfNat (nat_lit 1))) 0) (@List.cons.{0} @PySem.Value (@PySem.Value.int (@OfNat.ofNat.{0} @Int (nat_lit 0) (@instOfNat (nat_lit 0))) 0) (@List.cons.{0} @PySem.Value (@PySem.Value.int (@OfNat.ofNat.{0} @Int (nat_lit 0) (@instOfNat (nat_lit 0))) 0) (@List.cons.{0} @PySem.Value (@PySem.Value.int (@OfNat.ofNat.{0} @Int (nat_lit 3) (@instOfNat (nat_lit 3))) 0) (@List.cons.{0} @PySem.Value (@PySem.Value.ref 88) (@List.cons.{0} @PySem.Value (@PySem.Value.bool @Bool.true) (@List.cons.{0} @PySem.Value (@PySem.Value.int (@OfNat.ofNat.{0} @Int (nat_lit 181) (@instOfNat (nat_lit 181))) 0) (@List.cons.{0} @PySem.Value (@PySem.Value.ref 89) (@List.cons.{0} @PySem.Value @PySem.Value.none (@List.cons.{0} @PySem.Value (@PySem.Value.ref 90) (@List.cons.{0} @PySem.Value (@PySem.Value.ref 91) (@List.cons.{0} @PySem.Value (@PySem.Value.ref 92) (@List.cons.{0} @PySem.Value (@PySem.Value.int (@OfNat.ofNat.{0} @Int (nat_lit 288) (@instOfNat (nat_lit 288))) 0) (@List.cons.{0} @PySem.Value (@PySem.Value.int (@OfNat.ofNat.{0} @Int (nat_lit 34) (@instOfNat (nat_lit 34))) 0) (@List.cons.{0} @PySem.Value (@PySem.Value.str (@PySem.Str.ofString "/claim/cut.py") 289) (@List.nil.{0} @PySem.Value)))))))))))))))))))))) (@List.toArray.{0} (@Option.{0} @PySem.Value) (@List.nil.{0} (@Option.{0} @PySem.Value))))) ::
((nat_lit 94), (@PySem.Obj.mk (@PySem.Value.type "function") (@Option.none.{0} @Nat) (@PySem.Data.func (@PySem.FuncData.mk (@PySem.Str.ofString "left") (@PySem.Str.ofString "Rectangle.left") a94 (@PySem.FuncBody.stmts b94) s94 3 (@List.nil.{0} (@Prod.{0, 0} @PySem.Str @Nat)) @PySem.Value.none @PySem.Value.none @PySem.Value.none (@PySem.Value.str (@PySem.Str.ofString "rectpack.geometry") 194) (@Option.none.{0} @Nat) (@PySem.Value.ref 93) @PySem.Value.none 0)) (@List.toArray.{0} (@Option.{0} @PySem.Value) (@List.nil.{0} (@Option.{0} @PySem.Value))))) ::
((nat_lit 95), (@PySem.Obj.mk (@PySem.Value.type "property") (@Option.none.{0} @Nat) (@PySem.Data.fields (@List.toArray.{0} @PySem.Value (@List.cons.{0} @PySem.Value (@PySem.Value.ref 94) (@List.cons.{0} @PySem.Value @PySem.Value.none (@List.cons.{0} @PySem.Value @PySem.Value.none (@List.cons.{0} @PySem.Value @PySem.Value.none (@List.cons.{0} @PySem.Value (@PySem.Value.str (@PySem.Str.ofString "left") 291) (@List.cons.{0} @PySem.Value (@PySem.Value.bool @Bool.false) (@List.nil.{0} @PySem.Value))))))))) (@List.toArray.{0} (@Option.{0} @PySem.Value) (@List.nil.{0} (@Option.{0} @PySem.Value))))) ::
((nat_lit 96), (@PySem.Obj.mk (@PySem.Value.type "tuple") (@Option.none.{0} @Nat) (@PySem.Data.seq (@List.toArray.{0} @PySem.Value (@List.nil.{0} @PySem.Value)) 0) (@List.toArray.{0} (@Option.{0} @PySem.Value) (@List.nil.{0} (@Option.{0} @PySem.Value))))) ::
((nat_lit 98), (@PySem.Obj.mk (@PySem.Value.type "tuple") (@Option.none.{0} @Nat) (@PySem.Data.seq (@List.toArray.{0} @PySem.Value (@List.cons.{0} @PySem.Value (@PySem.Value.str (@PySem.Str.ofString "self") 295) (@List.nil.{0} @PySem.Value))) 0) (@List.toArray.{0} (@Option.{0} @PySem.Value) (@List.nil.{0} (@Option.{0} @PySem.Value))))) ::
((nat_lit 99), (@PySem.Obj.mk (@PySem.Value.type "tuple") (@Option.none.{0} @Nat) (@PySem.Data.seq (@List.toArray.{0} @PySem.Value (@List.nil.{0} @PySem.Value)) 0) (@List.toArray.{0} (@Option.{0} @PySem.Value) (@List.nil.{0} (@Option.{0} @PySem.Value))))) ::
((nat_lit 101), (@PySem.Obj.mk (@PySem.Value.type "code") (@Option.none.{0} @Nat) (@PySem.Data.fields (@List.toArray.{0} @PySem.Value (@List.cons.{0} @PySem.Value (@PySem.Value.str (@PySem.Str.ofString "right") 292) (@List.cons.{0} @PySem.Value (@PySem.Value.str (@PySem.Str.ofString "Rectangle.right") 293) (@List.cons.{0} @PySem.Value (@PySem.Value.str (@PySem.Str.ofString "/claim/cut.py") 294) (@List.cons.{0} @PySem.Value (@PySem.Value.int (@OfNat.ofNat.{0} @Int (nat_lit 38) (@instOfNat (nat_lit 38))) 0) (@List.cons.{0} @PySem.Value (@PySem.Value.int (@OfNat.ofNat.{0} @Int (nat_lit 1) (@instOfNat (nat_lit 1))) 0) (@List.cons.{0} @PySem.Value (@PySem.Value.int (@OfNat.ofNat.{0} @Int (nat_lit 0) (@instOfNat (nat_lit 0))) 0) (@List.cons.{0} @PySem.Value (@PySem.Value.int (@OfNat.ofNat.{0} @Int (nat_lit 0) (@instOfNat (nat_lit 0))) 0) (@List.cons.{0} @PySem.Value (@PySem.Value.int (@OfNat.ofNat.{0} @Int (nat_lit 3) (@instOfNat (nat_lit 3))) 0) (@List.cons.{0} @PySem.Value (@PySem.Value.ref 96) (@List.cons.{0} @PySem.Value (@PySem.Value.bool @Bool.true) (@List.cons.{0} @PySem.Value (@PySem.Value.int (@OfNat.ofNat.{0} @Int (nat_lit 181) (@instOfNat (nat_lit 181))) 0) (@List.cons.{0} @PySem.Value (@PySem.Value.ref 97) (@List.cons.{0} @PySem.Value @PySem.Value.none (@List.cons.{0} @PySem.Value (@PySem.Value.ref 98) (@List.cons.{0} @PySem.Value (@PySem.Value.ref 99) (@List.cons.{0} @PySem.Value (@PySem.Value.ref 100) (@List.cons.{0} @PySem.Value (@PySem.Value.int (@OfNat.ofNat.{0} @Int (nat_lit 296) (@instOfNat (nat_lit 296))) 0) (@List.cons.{0} @PySem.Value (@PySem.Value.int (@OfNat.ofNat.{0} @Int (nat_lit 38) (@instOfNat (nat_lit 38))) 0) (@List.cons.{0} @PySem.Value (@PySem.Value.str (@PySem.Str.ofString "/claim/cut.py") 297) (@List.nil.{0} @PySem.Value)))))))))))))))))))))) (@List.toArray.{0} (@Option.{0} @PySem.Value) (@List.nil.{0} (@Option.{0} @PySem.Value))))) ::
((nat_lit 102), (@PySem.Obj.mk (@PySem.Value.type "function") (@Option.none.{0} @Nat) (@PySem.Data.func (@PySem.FuncData.mk (@PySem.Str.ofString "right") (@PySem.Str.ofString "Rectangle.right") a102 (@PySem.FuncBody.stmts b102) s102 3 (@List.nil.{0} (@Prod.{0, 0} @PySem.Str @Nat)) @PySem.Value.none @PySem.Value.none @PySem.Value.none (@PySem.Value.str (@PySem.Str.ofString "rectpack.geometry") 194) (@Option.none.{0} @Nat) (@PySem.Value.ref 101) @PySem.Value.none 0)) (@List.toArray.{0} (@Option.{0} @PySem.Value) (@List.nil.{0} (@Option.{0} @PySem.Value))))) ::
((nat_lit 103), (@PySem.Obj.mk (@PySem.Value.type "property") (@Option.none.{0} @Nat) (@PySem.Data.fields (@List.toArray.{0} @PySem.Value (@List.cons.{0} @PySem.Value (@PySem.Value.ref 102) (@List.cons.{0} @PySem.Value @PySem.Value.none (@List.cons.{0} @PySem.Value @PySem.Value.none (@List.cons.{0} @PySem.Value @PySem.Value.none (@List.cons.{0} @PySem.Value (@PySem.Value.str (@PySem.Str.ofString "right") 299) (@List.cons.{0} @PySem.Value (@PySem.Value.bool @Bool.false) (@List.nil.{0} @PySem.Value))))))))) (@List.toArray.{0} (@Option.{0} @PySem.Value) (@List.nil.{0} (@Option.{0} @PySem.Value))))) ::
((nat_lit 104), (@PySem.Obj.mk (@PySem.Value.type "tuple") (@Option.none.{0} @Nat) (@PySem.Data.seq (@List.toArray.{0} @PySem.Value (@List.nil.{0} @PySem.Value)) 0) (@List.toArray.{0} (@Option.{0} @PySem.Value) (@List.nil.{0} (@Option.{0} @PySem.Value))))) ::
((nat_lit 106), (@PySem.Obj.mk (@PySem.Value.type "tuple") (@Option.none.{0} @Nat) (@PySem.Data.seq (@List.toArray.{0} @PySem.Value (@List.cons.{0} @PySem.Value (@PySem.Value.str (@PySem.Str.ofString "self") 303) (@List.nil.{0} @PySem.Value))) 0) (@List.toArray.{0} (@Option.{0} @PySem.Value) (@List.nil.{0} (@Option.{0} @PySem.Value))))) ::
((nat_lit 107), (@PySem.Obj.mk (@PySem.Value.type "tuple") (@Option.none.{0} @Nat) (@PySem.Data.seq (@List.toArray.{0} @PySem.Value (@List.nil.{0} @PySem.Value)) 0) (@List.toArray.{0} (@Option.{0} @PySem.Value) (@List.nil.{0} (@Option.{0} @PySem.Value))))) ::
((nat_lit 109), (@PySem.Obj.mk (@PySem.Value.type "code") (@Option.none.{0} @Nat) (@PySem.Data.fields (@List.toArray.{0} @PySem.Value (@List.cons.{0} @PySem.Value (@PySem.Value.str (@PySem.Str.ofString "corner_top_l") 300) (@List.cons.{0} @PySem.Value (@PySem.Value.str (@PySem.Str.ofString "Rectangle.corner_top_l") 301) (@List.cons.{0} @PySem.Value (@PySem.Value.str (@PySem.Str.ofString "/claim/cut.py") 302) (@List.cons.{0} @PySem.Value (@PySem.Value.int (@OfNat.ofNat.{0} @Int (nat_lit 42) (@instOfNat (nat_lit 42))) 0) (@List.cons.{0} @PySem.Value (@PySem.Value.int (@OfNat.ofNat.{0} @Int (nat_lit 1) (@instOfNat (nat_lit 1))) 0) (@List.cons.{0} @PySem.Value (@PySem.Value.int (@OfNat.ofNat.{0} @Int (nat_lit 0) (@instOfNat (nat_lit 0))) 0) (@List.cons.{0} @PySem.Value (@PySem.Value.int (@OfNat.ofNat.{0} @Int (nat_lit 0) (@instOfNat (nat_lit 0))) 0) (@List.cons.{0} @PySem.Value (@PySem.Value.int (@OfNat.ofNat.{0} @Int (nat_lit 3) (@instOfNat (nat_lit 3))) 0) (@List.cons.{0} @PySem.Value (@PySem.Value.ref 104) (@List.cons.{0} @PySem.Value (@PySem.Value.bool @Bool.true) (@List.cons.{0} @PySem.Value (@PySem.Value.int (@OfNat.ofNat.{0} @Int (nat_lit 181) (@instOfNat (nat_lit 181))) 0) (@List.cons.{0} @PySem.Value (@PySem.Value.ref 105) (@List.cons.{0} @PySem.Value @PySem.Value.none (@List.cons.{0} @PySem.Value (@PySem.Value.ref 106) (@List.cons.{0} @PySem.Value (@PySem.Value.ref 107) (@List.cons.{0} @PySem.Value (@PySem.Value.ref 108) (@List.cons.{0} @PySem.Value (@PySem.Value.int (@OfNat.ofNat.{0} @Int (nat_lit 304) (@instOfNat (nat_lit 304))) 0) (@List.cons.{0} @PySem.Value (@PySem.Value.int (@OfNat.ofNat.{0} @Int (nat_lit 42) (@instOfNat (nat_lit 42))) 0) (@List.cons.{0} @PySem.Value (@PySem.Value.str (@PySem.Str.ofString "/claim/cut.py") 305) (@List.nil.{0} @PySem.Value)))))))))))))))))))))) (@List.toArray.{0} (@Option.{0} @PySem.Value) (@List.nil.{0} (@Option.{0} @PySem.Value))))) ::
((nat_lit 110), (@PySem.Obj.mk (@PySem.Value.type "function") (@Option.none.{0} @Nat) (@PySem.Data.func (@PySem.FuncData.mk (@PySem.Str.ofString "corner_top_l") (@PySem.Str.ofString "Rectangle.corner_top_l") a110 (@PySem.FuncBody.stmts b110) s110 3 (@List.nil.{0} (@Prod.{0, 0} @PySem.Str @Nat)) @PySem.Value.none @PySem.Value.none @PySem.Value.none (@PySem.Value.str (@PySem.Str.ofString "rectpack.geometry") 194) (@Option.none.{0} @Nat) (@PySem.Value.ref 109) @PySem.Value.none 0)) (@List.toArray.{0} (@Option.{0} @PySem.Value) (@List.nil.{0} (@Option.{0} @PySem.Value))))) ::
((nat_lit 111), (@PySem.Obj.mk (@PySem.Value.type "property") (@Option.none.{0} @Nat) (@PySem.Data.fields (@List.toArray.{0} @PySem.Value (@List.cons.{0} @PySem.Value (@PySem.Value.ref 110) (@List.cons.{0} @PySem.Value @PySem.Value.none (@List.cons.{0} @PySem.Value @PySem.Value.none (@List.cons.{0} @PySem.Value @PySem.Value.none (@List.cons.{0} @PySem.Value (@PySem.Value.str (@PySem.Str.ofString "corner_top_l") 307) (@List.cons.{0} @PySem.Value (@PySem.Value.bool @Bool.false) (@List.nil.{0} @PySem.Value))))))))) (@List.toArray.{0} (@Option.{0} @PySem.Value) (@List.nil.{0} (@Option.{0} @PySem.Value))))) ::
((nat_lit 112), (@PySem.Obj.mk (@PySem.Value.type "tuple") (@Option.none.{0} @Nat) (@PySem.Data.seq (@List.toArray.{0} @PySem.Value (@List.nil.{0} @PySem.Value)) 0) (@List.toArray.{0} (@Option.{0} @PySem.Value) (@List.nil.{0} (@Option.{0} @PySem.Value))))) ::
((nat_lit 114), (@PySem.Obj.mk (@PySem.Value.type "tuple") (@Option.none.{0} @Nat) (@PySem.Data.seq (@List.toArray.{0} @PySem.Value (@List.cons.{0} @PySem.Value (@PySem.Value.str (@PySem.Str.ofString "self") 311) (@List.nil.{0} @PySem.Value))) 0) (@List.toArray.{0} (@Option.{0} @PySem.Value) (@List.nil.{0} (@Option.{0} @PySem.Value))))) ::
((nat_lit 115), (@PySem.Obj.mk (@PySem.Value.type "tuple") (@Option.none.{0} @Nat) (@PySem.Data.seq (@List.toArray.{0} @PySem.Value (@List.nil.{0} @PySem.Value)) 0) (@List.toArray.{0} (@Option.{0} @PySem.Value) (@List.nil.{0} (@Option.{0} @PySem.Value))))) ::
((nat_lit 117), (@PySem.Obj.mk (@PySem.Value.type "code") (@Option.none.{0} @Nat) (@PySem.Data.fields (@List.toArray.{0} @PySem.Value (@List.cons.{0} @PySem.Value (@PySem.Value.str (@PySem.Str.ofString "corner_top_r") 308) (@List.cons.{0} @PySem.Value (@PySem.Value.str (@PySem.Str.ofString "Rectangle.corner_top_r") 309) (@List.cons.{0} @PySem.Value (@PySem.Value.str (@PySem.Str.ofString "/claim/cut.py") 310) (@List.cons.{0} @PySem.Value (@PySem.Value.int (@OfNat.ofNat.{0} @Int (nat_lit 46) (@instOfNat (nat_lit 46))) 0) (@List.cons.{0} @PySem.Value (@PySem.Value.int (@OfNat.ofNat.{0} @Int (nat_lit 1) (@instOfNat (nat_lit 1))) 0) (@List.cons.{0} @PySem.Value (@PySem.Value.int (@OfNat.ofNat.{0} @Int (nat_lit 0) (@instOfNat (nat_lit 0))) 0) (@List.cons.{0} @PySem.Value (@PySem.Value.int (@OfNat.ofNat.{0} @Int (nat_lit 0) (@instOfNat (nat_lit 0))) 0) (@List.cons.{0} @PySem.Value (@PySem.Value.int (@OfNat.ofNat.{0} @Int (nat_lit 3) (@instOfNat (nat_lit 3))) 0) (@List.cons.{0} @PySem.Value (@PySem.Value.ref 112) (@List.cons.{0} @PySem.Value (@PySem.Value.bool @Bool.true) (@List.cons.{0} @PySem.Value (@PySem.Value.int (@OfNat.ofNat.{0} @Int (nat_lit 181) (@instOfNat (nat_lit 181))) 0) (@List.cons.{0} @PySem.Value (@PySem.Value.ref 113) (@List.cons.{0} @PySem.Value @PySem.Value.none (@List.cons.{0} @PySem.Value (@PySem.Value.ref 114) (@List.cons.{0} @PySem.Value (@PySem.Value.ref 115) (@List.cons.{0} @PySem.Value (@PySem.Value.ref 116) (@List.cons.{0} @PySem.Value (@PySem.Value.int (@OfNat.ofNat.{0} @Int (nat_lit 312) (@instOfNat (nat_lit 312))) 0) (@List.cons.{0} @PySem.Value (@PySem.Value.int (@OfNat.ofNat.{0} @Int (nat_lit 46) (@instOfNat (nat_lit 46))) 0) (@List.cons.{0} @PySem.Value (@PySem.Value.str (@PySem.Str.ofString "/claim/cut.py") 313) (@List.nil.{0} @PySem.Value)))))))))))))))))))))) (@List.toArray.{0} (@Option.{0} @PySem.Value) (@List.nil.{0} (@Option.{0} @PySem.Value))))) ::
((nat_lit 118), (@PySem.Obj.mk (@PySem.Value.type "function") (@Option.none.{0} @Nat) (@PySem.Data.func (@PySem.FuncData.mk (@PySem.Str.ofString "corner_top_r") (@PySem.Str.ofString "Rectangle.corner_top_r") a118 (@PySem.FuncBody.stmts b118) s118 3 (@List.nil.{0} (@Prod.{0, 0} @PySem.Str @Nat)) @PySem.Value.none @PySem.Value.none @PySem.Value.none (@PySem.Value.str (@PySem.Str.ofString "rectpack.geometry") 194) (@Option.none.{0} @Nat) (@PySem.Value.ref 117) @PySem.Value.none 0)) (@List.toArray.{0} (@Option.{0} @PySem.Value) (@List.nil.{0} (@Option.{0} @PySem.Value))))) ::
((nat_lit 119), (@PySem.Obj.mk (@PySem.Value.type "property") (@Option.none.{0} @Nat) (@PySem.Data.fields (@List.toArray.{0} @PySem.Value (@List.cons.{0} @PySem.Value (@PySem.Value.ref 118) (@List.cons.{0} @PySem.Value @PySem.Value.none (@List.cons.{0} @PySem.Value @PySem.Value.none (@List.cons.{0} @PySem.Value @PySem.Value.none (@List.cons.{0} @PySem.Value (@PySem.Value.str (@PySem.Str.ofString "corner_top_r") 315) (@List.cons.{0} @PySem.Value (@PySem.Value.bool @Bool.false) (@List.nil.{0} @PySem.Value))))))))) (@List.toArray.{0} (@Option.{0} @PySem.Value) (@List.nil.{0} (@Option.{0} @PySem.Value))))) ::
((nat_lit 120), (@PySem.Obj.mk (@PySem.Value.type "tuple") (@Option.none.{0} @Nat) (@PySem.Data.seq (@List.toArray.{0} @PySem.Value (@List.nil.{0} @PySem.Value)) 0) (@List.toArray.{0} (@Option.{0} @PySem.Value) (@List.nil.{0} (@Option.{0} @PySem.Value))))) ::
((nat_lit 122), (@PySem.Obj.mk (@PySem.Value.type "tuple") (@Option.none.{0} @Nat) (@PySem.Data.seq (@List.toArray.{0} @PySem.Value (@List.cons.{0} @PySem.Value (@PySem.Value.str (@PySem.Str.ofString "self") 319) (@List.nil.{0} @PySem.Value))) 0) (@List.toArray.{0} (@Option.{0} @PySem.Value) (@List.nil.{0} (@Option.{0} @PySem.Value))))) ::
((nat_lit 123), (@PySem.Obj.mk (@PySem.Value.type "tuple") (@Option.none.{0} @Nat) (@PySem.Data.seq (@List.toArray.{0} @PySem.Value (@List.nil.{0} @PySem.Value)) 0) (@List.toArray.{0} (@Option.{0} @PySem.Value) (@List.nil.{0} (@Option.{0} @PySem.Value))))) ::
((nat_lit 125), (@PySem.Obj.mk (@PySem.Value.type "code") (@Option.none.{0} @Nat) (@PySem.Data.fields (@List.toArray.{0} @PySem.Value (@List.cons.{0} @PySem.Value (@PySem.Value.str (@PySem.Str.ofString "corner_bot_r") 316) (@List.cons.{0} @PySem.Value (@PySem.Value.str (@PySem.Str.ofString "Rectangle.corner_bot_r") 317) (@List.cons.{0} @PySem.Value (@PySem.Value.str (@PySem.Str.ofString "/claim/cut.py") 318) (@List.cons.{0} @PySem.Value (@PySem.Value.int (@OfNat.ofNat.{0} @Int (nat_lit 50) (@instOfNat (nat_lit 50))) 0) (@List.cons.{0} @PySem.Value (@PySem.Value.int (@OfNat.ofNat.{0} @Int (nat_lit 1) (@instOfNat (nat_lit 1))) 0) (@List.cons.{0} @PySem.Value (@PySem.Value.int (@OfNat.ofNat.{0} @Int (nat_lit 0) (@instOfNat (nat_lit 0))) 0) (@List.cons.{0} @PySem.Value (@PySem.Value.int (@OfNat.ofNat.{0} @Int (nat_lit 0) (@instOfNat (nat_lit 0))) 0) (@List.cons.{0} @PySem.Value (@PySem.Value.int (@OfNat.ofNat.{0} @Int (nat_lit 3) (@instOfNat (nat_lit 3))) 0) (@List.cons.{0} @PySem.Value (@PySem.Value.ref 120) (@List.cons.{0} @PySem.Value (@PySem.Value.bool @Bool.true) (@List.cons.{0} @PySem.Value (@PySem.Value.int (@OfNat.ofNat.{0} @Int (nat_lit 181) (@instOfNat (nat_lit 181))) 0) (@List.cons.{0} @PySem.Value (@PySem.Value.ref 121) (@List.cons.{0} @PySem.Value @PySem.Value.none (@List.cons.{0} @PySem.Value (@PySem.Value.ref 122) (@List.cons.{0} @PySem.Value (@PySem.Value.ref 123) (@List.cons.{0} @PySem.Value (@PySem.Value.ref 124) (@List.cons.{0} @PySem.Value (@PySem.Value.int (@OfNat.ofNat.{0} @Int (nat_lit 320) (@instOfNat (nat_lit 320))) 0) (@List.cons.{0} @PySem.Value (@PySem.Value.int (@OfNat.ofNat.{0} @Int (nat_lit 50) (@instOfNat (nat_lit 50))) 0) (@List.cons.{0} @PySem.Value (@PySem.Value.str (@PySem.Str.ofString "/claim/cut.py") 321) (@List.nil.{0} @PySem.Value)))))))))))))))))))))) (@List.toArray.{0} (@Option.{0} @PySem.Value) (@List.nil.{0} (@Option.{0} @PySem.Value))))) ::
((nat_lit 126), (@PySem.Obj.mk (@PySem.Value.type "function") (@Option.none.{0} @Nat) (@PySem.Data.func (@PySem.FuncData.mk (@PySem.Str.ofString "corner_bot_r") (@PySem.Str.ofString "Rectangle.corner_bot_r") a126 (@PySem.FuncBody.stmts b126) s126 3 (@List.nil.{0} (@Prod.{0, 0} @PySem.Str @Nat)) @PySem.Value.none @PySem.Value.none @PySem.Value.none (@PySem.Value.str (@PySem.Str.ofString "rectpack.geometry") 194) (@Option.none.{0} @Nat) (@PySem.Value.ref 125) @PySem.Value.none 0)) (@List.toArray.{0} (@Option.{0} @PySem.Value) (@List.nil.{0} (@Option.{0} @PySem.Value))))) ::
((nat_lit 127), (@PySem.Obj.mk (@PySem.Value.type "property") (@Option.none.{0} @Nat) (@PySem.Data.fields (@List.toArray.{0} @PySem.Value (@List.cons.{0} @PySem.Value (@PySem.Value.ref 126) (@List.cons.{0} @PySem.Value @PySem.Value.none (@List.cons.{0} @PySem.Value @PySem.Value.none (@List.cons.{0} @PySem.Value @PySem.Value.none (@List.cons.{0} @PySem.Value (@PySem.Value.str (@PySem.Str.ofString "corner_bot_r") 323) (@List.cons.{0} @PySem.Value (@PySem.Value.bool @Bool.false) (@List.nil.{0} @PySem.Value))))))))) (@List.toArray.{0} (@Option.{0} @PySem.Value) (@List.nil.{0} (@Option.{0} @PySem.Value))))) ::
((nat_lit 128), (@PySem.Obj.mk (@PySem.Value.type "tuple") (@Option.none.{0} @Nat) (@PySem.Data.seq (@List.toArray.{0} @PySem.Value (@List.nil.{0} @PySem.Value)) 0) (@List.toArray.{0} (@Option.{0} @PySem.Value) (@List.nil.{0} (@Option.{0} @PySem.Value))))) ::
((nat_lit 130), (@PySem.Obj.mk (@PySem.Value.type "tuple") (@Option.none.{0} @Nat) (@PySem.Data.seq (@List.toArray.{0} @PySem.Value (@List.cons.{0} @PySem.Value (@PySem.Value.str (@PySem.Str.ofString "self") 327) (@List.nil.{0} @PySem.Value))) 0) (@List.toArray.{0} (@Option.{0} @PySem.Value) (@List.nil.{0} (@Option.{0} @PySem.Value))))) ::
((nat_lit 131), (@PySem.Obj.mk (@PySem.Value.type "tuple") (@Option.none.{0} @Nat) (@PySem.Data.seq (@List.toArray.{0} @PySem.Value (@List.nil.{0} @PySem.Value)) 0) (@List.toArray.{0} (@Option.{0} @PySem.Value) (@List.nil.{0} (@Option.{0} @PySem.Value))))) ::
((nat_lit 133), (@PySem.Obj.mk (@PySem.Value.type "code") (@Option.none.{0} @Nat) (@PySem.Data.fields (@List.toArray.{0} @PySem.Value (@List.cons.{0} @PySem.Value (@PySem.Value.str (@PySem.Str.ofString "corner_bot_l") 324) (@List.cons.{0} @PySem.Value (@PySem.Value.str (@PySem.Str.ofString "Rectangle.corner_bot_l") 325) (@List.cons.{0} @PySem.Value (@PySem.Value.str (@PySem.Str.ofString "/claim/cut.py") 326) (@List.cons.{0} @PySem.Value (@PySem.Value.int (@OfNat.ofNat.{0} @Int (nat_lit 54) (@instOfNat (nat_lit 54))) 0) (@List.cons.{0} @PySem.Value (@PySem.Value.int (@OfNat.ofNat.{0} @Int (nat_lit 1) (@instOfNat (nat_lit 1))) 0) (@List.cons.{0} @PySem.Value (@PySem.Value.int (@OfNat.ofNat.{0} @Int (nat_lit 0) (@instOfNat (nat_lit 0))) 0) (@List.cons.{0} @PySem.Value (@PySem.Value.int (@OfNat.ofNat.{0} @Int (nat_lit 0) (@instOfNat (nat_lit 0))) 0) (@List.cons.{0} @PySem.Value (@PySem.Value.int (@OfNat.ofNat.{0} @Int (nat_lit 3) (@instOfNat (nat_lit 3))) 0) (@List.cons.{0} @PySem.Value (@PySem.Value.ref 128) (@List.cons.{0} @PySem.Value (@PySem.Value.bool @Bool.true) (@List.cons.{0} @PySem.Value (@PySem.Value.int (@OfNat.ofNat.{0} @Int (nat_lit 181) (@instOfNat (nat_lit 181))) 0) (@List.cons.{0} @PySem.Value (@PySem.Value.ref 129) (@List.cons.{0} @PySem.Value @PySem.Value.none (@List.cons.{0} @PySem.Value (@PySem.Value.ref 130) (@List.cons.{0} @PySem.Value (@PySem.Value.ref 131) (@List.cons.{0} @PySem.Value (@PySem.Value.ref 132) (@List.cons.{0} @PySem.Value (@PySem.Value.int (@OfNat.ofNat.{0} @Int (nat_lit 328) (@instOfNat (nat_lit 328))) 0) (@List.cons.{0} @PySem.Value (@PySem.Value.int (@OfNat.ofNat.{0} @Int (nat_lit 54) (@instOfNat (nat_lit 54))) 0) (@List.cons.{0} @PySem.Value (@PySem.Value.str (@PySem.Str.ofString "/claim/cut.py") 329) (@List.nil.{0} @PySem.Value)))))))))))))))))))))) (@List.toArray.{0} (@Option.{0} @PySem.Value) (@List.nil.{0} (@Option.{0} @PySem.Value))))) ::
((nat_lit 134), (@PySem.Obj.mk (@PySem.Value.type "function") (@Option.none.{0} @Nat) (@PySem.Data.func (@PySem.FuncData.mk (@PySem.Str.ofString "corner_bot_l") (@PySem.Str.ofString "Rectangle.corner_bot_l") a134 (@PySem.FuncBody.stmts b134) s134 3 (@List.nil.{0} (@Prod.{0, 0} @PySem.Str @Nat)) @PySem.Value.none @PySem.Value.none @PySem.Value.none (@PySem.Value.str (@PySem.Str.ofString "rectpack.geometry") 194) (@Option.none.{0} @Nat) (@PySem.Value.ref 133) @PySem.Value.none 0)) (@List.toArray.{0} (@Option.{0} @PySem.Value) (@List.nil.{0} (@Option.{0} @PySem.Value))))) ::
((nat_lit 135), (@PySem.Obj.mk (@PySem.Value.type "property") (@Option.none.{0} @Nat) (@PySem.Data.fields (@List.toArray.{0} @PySem.Value (@List.cons.{0} @PySem.Value (@PySem.Value.ref 134) (@List.cons.{0} @PySem.Value @PySem.Value.none (@List.cons.{0} @PySem.Value @PySem.Value.none (@List.cons.{0} @PySem.Value @PySem.Value.none (@List.cons.{0} @PySem.Value (@PySem.Value.str (@PySem.Str.ofString "corner_bot_l") 331) (@List.cons.{0} @PySem.Value (@PySem.Value.bool @Bool.false) (@List.nil.{0} @PySem.Value))))))))) (@List.toArray.{0} (@Option.{0} @PySem.Value) (@List.nil.{0} (@Option.{0} @PySem.Value))))) ::
((nat_lit 136), (@PySem.Obj.mk (@PySem.Value.type "tuple") (@Option.none.{0} @Nat) (@PySem.Data.seq (@List.toArray.{0} @PySem.Value (@List.nil.{0} @PySem.Value)) 0) (@List.toArray.{0} (@Option.{0} @PySem.Value) (@List.nil.{0} (@Option.{0} @PySem.Value))))) ::
((nat_lit 138), (@PySem.Obj.mk (@PySem.Value.type "tuple") (@Option.none.{0} @Nat) (@PySem.Data.seq (@List.toArray.{0} @PySem.Value (@List.cons.{0} @PySem.Value (@PySem.Value.str (@PySem.Str.ofString "self") 335) (@List.cons.{0} @PySem.Value (@PySem.Value.str (@PySem.Str.ofString "other") 336) (@List.nil.{0} @PySem.Value)))) 0) (@List.toArray.{0} (@Option.{0} @PySem.Value) (@List.nil.{0} (@Option.{0} @PySem.Value))))) ::
((nat_lit 139), (@PySem.Obj.mk (@PySem.Value.type "tuple") (@Option.none.{0} @Nat) (@PySem.Data.seq (@List.toArray.{0} @PySem.Value (@List.nil.{0} @PySem.Value)) 0) (@List.toArray.{0} (@Option.{0} @PySem.Value) (@List.nil.{0} (@Option.{0} @PySem.Value))))) ::
((nat_lit 141), (@PySem.Obj.mk (@PySem.Value.type "code") (@Option.none.{0} @Nat) (@PySem.Data.fields (@List.toArray.{0} @PySem.Value (@List.cons.{0} @PySem.Value (@PySem.Value.str (@PySem.Str.ofString "__lt__") 332) (@List.cons.{0} @PySem.Value (@PySem.Value.str (@PySem.Str.ofString "Rectangle.__lt__") 333) (@List.cons.{0} @PySem.Value (@PySem.Value.str (@PySem.Str.ofString "/claim/cut.py") 334) (@List.cons.{0} @PySem.Value (@PySem.Value.int (@OfNat.ofNat.{0} @Int (nat_lit 58) (@instOfNat (nat_lit 58))) 0) (@List.cons.{0} @PySem.Value (@PySem.Value.int (@OfNat.ofNat.{0} @Int (nat_lit 2) (@instOfNat (nat_lit 2))) 0) (@List.cons.{0} @PySem.Value (@PySem.Value.int (@OfNat.ofNat.{0} @Int (nat_lit 0) (@instOfNat (nat_lit 0))) 0) (@List.cons.{0} @PySem.Value (@PySem.Value.int (@OfNat.ofNat.{0} @Int (nat_lit 0) (@instOfNat (nat_lit 0))) 0) (@List.cons.{0} @PySem.Value (@PySem.Value.int (@OfNat.ofNat.{0} @Int (nat_lit 3) (@instOfNat (nat_lit 3))) 0) (@List.cons.{0} @PySem.Value (@PySem.Value.ref 136) (@List.cons.{0} @PySem.Value (@PySem.Value.bool @Bool.true) (@List.cons.{0} @PySem.Value (@PySem.Value.int (@OfNat.ofNat.{0} @Int (nat_lit 181) (@instOfNat (nat_lit 181))) 0) (@List.cons.{0} @PySem.Value (@PySem.Value.ref 137) (@List.cons.{0} @PySem.Value @PySem.Value.none (@List.cons.{0} @PySem.Value (@PySem.Value.ref 138) (@List.cons.{0} @PySem.Value (@PySem.Value.ref 139) (@List.cons.{0} @PySem.Value (@PySem.Value.ref 140) (@List.cons.{0} @PySem.Value (@PySem.Value.int (@OfNat.ofNat.{0} @Int (nat_lit 337) (@instOfNat (nat_lit 337))) 0) (@List.cons.{0} @PySem.Value (@PySem.Value.int (@OfNat.ofNat.{0} @Int (nat_lit 58) (@instOfNat (nat_lit 58))) 0) (@List.cons.{0} @PySem.Value (@PySem.Value.str (@PySem.Str.ofString "/claim/cut.py") 338) (@List.nil.{0} @PySem.Value)))))))))))))))))))))) (@List.toArray.{0} (@Option.{0} @PySem.Value) (@List.nil.{0} (@Option.{0} @PySem.Value))))) ::
((nat_lit 142), (@PySem.Obj.mk (@PySem.Value.type "function") (@Option.none.{0} @Nat) (@PySem.Data.func (@PySem.FuncData.mk (@PySem.Str.ofString "__lt__") (@PySem.Str.ofString "Rectangle.__lt__") a142 (@PySem.FuncBody.stmts b142) s142 3 (@List.nil.{0} (@Prod.{0, 0} @PySem.Str @Nat)) @PySem.Value.none @PySem.Value.none @PySem.Value.none (@PySem.Value.str (@PySem.Str.ofString "rectpack.geometry") 194) (@Option.none.{0} @Nat) (@PySem.Value.ref 141) @PySem.Value.none 0)) (@List.toArray.{0} (@Option.{0} @PySem.Value) (@List.nil.{0} (@Option.{0} @PySem.Value))))) ::
((nat_lit 143), (@PySem.Obj.mk (@PySem.Value.type "tuple") (@Option.none.{0} @Nat) (@PySem.Data.seq (@List.toArray.{0} @PySem.Value (@List.nil.{0} @PySem.Value)) 0) (@List.toArray.{0} (@Option.{0} @PySem.Value) (@List.nil.{0} (@Option.{0} @PySem.Value))))) ::
((nat_lit 145), (@PySem.Obj.mk (@PySem.Value.type "tuple") (@Option.none.{0} @Nat) (@PySem.Data.seq (@List.toArray.{0} @PySem.Value (@List.cons.{0} @PySem.Value (@PySem.Value.str (@PySem.Str.ofString "self") 343) (@List.cons.{0} @PySem.Value (@PySem.Value.str (@PySem.Str.ofString "other") 344) (@List.nil.{0} @PySem.Value)))) 0) (@List.toArray.{0} (@Option.{0} @PySem.Value) (@List.nil.{0} (@Option.{0} @PySem.Value))))) ::
((nat_lit 146), (@PySem.Obj.mk (@PySem.Value.type "tuple") (@Option.none.{0} @Nat) (@PySem.Data.seq (@List.toArray.{0} @PySem.Value (@List.nil.{0} @PySem.Value)) 0) (@List.toArray.{0} (@Option.{0} @PySem.Value) (@List.nil.{0} (@Option.{0} @PySem.Value))))) ::
((nat_lit 148), (@PySem.Obj.mk (@PySem.Value.type "code") (@Option.none.{0} @Nat) (@PySem.Data.fields (@List.toArray.{0} @PySem.Value (@List.cons.{0} @PySem.Value (@PySem.Value.str (@PySem.Str.ofString "__eq__") 340) (@List.cons.{0} @PySem.Value (@PySem.Value.str (@PySem.Str.ofString "Rectangle.__eq__") 341) (@List.cons.{0} @PySem.Value (@PySem.Value.str (@PySem.Str.ofString "/claim/cut.py") 342) (@List.cons.{0} @PySem.Value (@PySem.Value.int (@OfNat.ofNat.{0} @Int (nat_lit 61) (@instOfNat (nat_lit 61))) 0) (@List.cons.{0} @PySem.Value (@PySem.Value.int (@OfNat.ofNat.{0} @Int (nat_lit 2) (@instOfNat (nat_lit 2))) 0) (@List.cons.{0} @PySem.Value (@PySem.Value.int (@OfNat.ofNat.{0} @Int (nat_lit 0) (@instOfNat (nat_lit 0))) 0) (@List.cons.{0} @PySem.Value (@PySem.Value.int (@OfNat.ofNat.{0} @Int (nat_lit 0) (@instOfNat (nat_lit 0))) 0) (@List.cons.{0} @PySem.Value (@PySem.Value.int (@OfNat.ofNat.{0} @Int (nat_lit 3) (@instOfNat (nat_lit 3))) 0) (@List.cons.{0} @PySem.Value (@PySem.Value.ref 143) (@List.cons.{0} @PySem.Value (@PySem.Value.bool @Bool.true) (@List.cons.{0} @PySem.Value (@PySem.Value.int (@OfNat.ofNat.{0} @Int (nat_lit 181) (@instOfNat (nat_lit 181))) 0) (@List.cons.{0} @PySem.Value (@PySem.Value.ref 144) (@List.cons.{0} @PySem.Value @PySem.Value.none (@List.cons.{0} @PySem.Value (@PySem.Value.ref 145) (@List.cons.{0} @PySem.Value (@PySem.Value.ref 146) (@List.cons.{0} @PySem.Value (@PySem.Value.ref 147) (@List.cons.{0} @PySem.Value (@PySem.Value.int (@OfNat.ofNat.{0} @Int (nat_lit 345) (@instOfNat (nat_lit 345))) 0) (@List.cons.{0} @PySem.Value (@PySem.Value.int (@OfNat.ofNat.{0} @Int (nat_lit 61) (@instOfNat (nat_lit 61))) 0) (@List.cons.{0} @PySem.Value (@PySem.Value.str (@PySem.Str.ofString "/claim/cut.py") 346) (@List.nil.{0} @PySem.Value)))))))))))))))))))))) (@List.toArray.{0} (@Option.{0} @PySem.Value) (@List.nil.{0} (@Option.{0} @PySem.Value))))) ::
((nat_lit 149), (@PySem.Obj.mk (@PySem.Value.type "function") (@Option.none.{0} @Nat) (@PySem.Data.func (@PySem.FuncData.mk (@PySem.Str.ofString "__eq__") (@PySem.Str.ofString "Rectangle.__eq__") a149 (@PySem.FuncBody.stmts b149) s149 3 (@List.nil.{0} (@Prod.{0, 0} @PySem.Str @Nat)) @PySem.Value.none @PySem.Value.none @PySem.Value.none (@PySem.Value.str (@PySem.Str.ofString "rectpack.geometry") 194) (@Option.none.{0} @Nat) (@PySem.Value.ref 148) @PySem.Value.none 0)) (@List.toArray.{0} (@Option.{0} @PySem.Value) (@List.nil.{0} (@Option.{0} @PySem.Value))))) ::
((nat_lit 150), (@PySem.Obj.mk (@PySem.Value.type "tuple") (@Option.none.{0} @Nat) (@PySem.Data.seq (@List.toArray.{0} @PySem.Value (@List.nil.{0} @PySem.Value)) 0) (@List.toArray.{0} (@Option.{0} @PySem.Value) (@List.nil.{0} (@Option.{0} @PySem.Value))))) ::
((nat_lit 152), (@PySem.Obj.mk (@PySem.Value.type "tuple") (@Option.none.{0} @Nat) (@PySem.Data.seq (@List.toArray.{0} @PySem.Value (@List.cons.{0} @PySem.Value (@PySem.Value.str (@PySem.Str.ofString "self") 351) (@List.nil.{0} @PySem.Value))) 0) (@List.toArray.{0} (@Option.{0} @PySem.Value) (@List.nil.{0} (@Option.{0} @PySem.Value))))) ::
((nat_lit 153), (@PySem.Obj.mk (@PySem.Value.type "tuple") (@Option.none.{0} @Nat) (@PySem.Data.seq (@List.toArray.{0} @PySem.Value (@List.nil.{0} @PySem.Value)) 0) (@List.toArray.{0} (@Option.{0} @PySem.Value) (@List.nil.{0} (@Option.{0} @PySem.Value))))) ::
((nat_lit 155), (@PySem.Obj.mk (@PySem.Value.type "code") (@Option.none.{0} @Nat) (@PySem.Data.fields (@List.toArray.{0} @PySem.Value (@List.cons.{0} @PySem.Value (@PySem.Value.str (@PySem.Str.ofString "__iter__") 348) (@List.cons.{0} @PySem.Value (@PySem.Value.str (@PySem.Str.ofString "Rectangle.__iter__") 349) (@List.cons.{0} @PySem.Value (@PySem.Value.str (@PySem.Str.ofString "/claim/cut.py") 350) (@List.cons.{0} @PySem.Value (@PySem.Value.int (@OfNat.ofNat.{0} @Int (nat_lit 66) (@instOfNat (nat_lit 66))) 0) (@List.cons.{0} @PySem.Value (@PySem.Value.int (@OfNat.ofNat.{0} @Int (nat_lit 1) (@instOfNat (nat_lit 1))) 0) (@List.cons.{0} @PySem.Value (@PySem.Value.int (@OfNat.ofNat.{0} @Int (nat_lit 0) (@instOfNat (nat_lit 0))) 0) (@List.cons.{0} @PySem.Value (@PySem.Value.int (@OfNat.ofNat.{0} @Int (nat_lit 0) (@instOfNat (nat_lit 0))) 0) (@List.cons.{0} @PySem.Value (@PySem.Value.int (@OfNat.ofNat.{0} @Int (nat_lit 35) (@instOfNat (nat_lit 35))) 0) (@List.cons.{0} @PySem.Value (@PySem.Value.ref 150) (@List.cons.{0} @PySem.Value (@PySem.Value.bool @Bool.true) (@List.cons.{0} @PySem.Value (@PySem.Value.int (@OfNat.ofNat.{0} @Int (nat_lit 181) (@instOfNat (nat_lit 181))) 0) (@List.cons.{0} @PySem.Value (@PySem.Value.ref 151) (@List.cons.{0} @PySem.Value @PySem.Value.none (@List.cons.{0} @PySem.Value (@PySem.Value.ref 152) (@List.cons.{0} @PySem.Value (@PySem.Value.ref 153) (@List.cons.{0} @PySem.Value (@PySem.Value.ref 154) (@List.cons.{0} @PySem.Value (@PySem.Value.int (@OfNat.ofNat.{0} @Int (nat_lit 352) (@instOfNat (nat_lit 352))) 0) (@List.cons.{0} @PySem.Value (@PySem.Value.int (@OfNat.ofNat.{0} @Int (nat_lit 66) (@instOfNat (nat_lit 66))) 0) (@List.cons.{0} @PySem.Value (@PySem.Value.str (@PySem.Str.ofString "/claim/cut.py") 353) (@List.nil.{0} @PySem.Value)))))))))))))))))))))) (@List.toArray.{0} (@Option.{0} @PySem.Value) (@List.nil.{0} (@Option.{0} @PySem.Value))))) ::
((nat_lit 156), (@PySem.Obj.mk (@PySem.Value.type "function") (@Option.none.{0} @Nat) (@PySem.Data.func (@PySem.FuncData.mk (@PySem.Str.ofString "__iter__") (@PySem.Str.ofString "Rectangle.__iter__") a156 (@PySem.FuncBody.stmts b156) s156 3 (@List.nil.{0} (@Prod.{0, 0} @PySem.Str @Nat)) @PySem.Value.none @PySem.Value.none @PySem.Value.none (@PySem.Value.str (@PySem.Str.ofString "rectpack.geometry") 194) (@Option.none.{0} @Nat) (@PySem.Value.ref 155) @PySem.Value.none 0)) (@List.toArray.{0} (@Option.{0} @PySem.Value) (@List.nil.{0} (@Option.{0} @PySem.Value))))) ::
((nat_lit 157), (@PySem.Obj.mk (@PySem.Value.type "tuple") (@Option.none.{0} @Nat) (@PySem.Data.seq (@List.toArray.{0} @PySem.Value (@List.nil.{0} @PySem.Value)) 0) (@List.toArray.{0} (@Option.{0} @PySem.Value) (@List.nil.{0} (@Option.{0} @PySem.Value))))) ::
((nat_lit 159), (@PySem.Obj.mk (@PySem.Value.type "tuple") (@Option.none.{0} @Nat) (@PySem.Data.seq (@List.toArray.{0} @PySem.Value (@List.cons.{0} @PySem.Value (@PySem.Value.str (@PySem.Str.ofString "self") 358) (@List.nil.{0} @PySem.Value))) 0) (@List.toArray.{0} (@Option.{0} @PySem.Value) (@List.nil.{0} (@Option.{0} @PySem.Value))))) ::
((nat_lit 160), (@PySem.Obj.mk (@PySem.Value.type "tuple") (@Option.none.{0} @Nat) (@PySem.Data.seq (@List.toArray.{0} @PySem.Value (@List.nil.{0} @PySem.Value)) 0) (@List.toArray.{0} (@Option.{0} @PySem.Value) (@List.nil.{0} (@Option.{0} @PySem.Value))))) ::
((nat_lit 162), (@PySem.Obj.mk (@PySem.Value.type "code") (@Option.none.{0} @Nat) (@PySem.Data.fields (@List.toArray.{0} @PySem.Value (@List.cons.{0} @PySem.Value (@PySem.Value.str (@PySem.Str.ofString "area") 355) (@List.cons.{0} @PySem.Value (@PySem.Value.str (@PySem.Str.ofString "Rectangle.area") 356) (@List.cons.{0} @PySem.Value (@PySem.Value.str (@PySem.Str.ofString "/claim/cut.py") 357) (@List.cons.{0} @PySem.Value (@PySem.Value.int (@OfNat.ofNat.{0} @Int (nat_lit 72) (@instOfNat (nat_lit 72))) 0) (@List.cons.{0} @PySem.Value (@PySem.Value.int (@OfNat.ofNat.{0} @Int (nat_lit 1) (@instOfNat (nat_lit 1))) 0) (@List.cons.{0} @PySem.Value (@PySem.Value.int (@OfNat.ofNat.{0} @Int (nat_lit 0) (@instOfNat (nat_lit 0))) 0) (@List.cons.{0} @PySem.Value (@PySem.Value.int (@OfNat.ofNat.{0} @Int (nat_lit 0) (@instOfNat (nat_lit 0))) 0) (@List.cons.{0} @PySem.Value (@PySem.Value.int (@OfNat.ofNat.{0} @Int (nat_lit 3) (@instOfNat (nat_lit 3))) 0) (@List.cons.{0} @PySem.Value (@PySem.Value.ref 157) (@List.cons.{0} @PySem.Value (@PySem.Value.bool @Bool.true) (@List.cons.{0} @PySem.Value (@PySem.Value.int (@OfNat.ofNat.{0} @Int (nat_lit 181) (@instOfNat (nat_lit 181))) 0) (@List.cons.{0} @PySem.Value (@PySem.Value.ref 158) (@List.cons.{0} @PySem.Value @PySem.Value.none (@List.cons.{0} @PySem.Value (@PySem.Value.ref 159) (@List.cons.{0} @PySem.Value (@PySem.Value.ref 160) (@List.cons.{0} @PySem.Value (@PySem.Value.ref 161) (@List.cons.{0} @PySem.Value (@PySem.Value.int (@OfNat.ofNat.{0} @Int (nat_lit 359) (@instOfNat (nat_lit 359))) 0) (@List.cons.{0} @PySem.Value (@PySem.Value.int (@OfNat.ofNat.{0} @Int (nat_lit 72) (@instOfNat (nat_lit 72))) 0) (@List.cons.{0} @PySem.Value (@PySem.Value.str (@PySem.Str.ofString "/claim/cut.py") 360) (@List.nil.{0} @PySem.Value)))))))))))))))))))))) (@List.toArray.{0} (@Option.{0} @PySem.Value) (@List.nil.{0} (@Option.{0} @PySem.Value))))) ::
((nat_lit 163), (@PySem.Obj.mk (@PySem.Value.type "function") (@Option.none.{0} @Nat) (@PySem.Data.func (@PySem.FuncData.mk (@PySem.Str.ofString "area") (@PySem.Str.ofString "Rectangle.area") a163 (@PySem.FuncBody.stmts b163) s163 3 (@List.nil.{0} (@Prod.{0, 0} @PySem.Str @Nat)) @PySem.Value.none @PySem.Value.none @PySem.Value.none (@PySem.Value.str (@PySem.Str.ofString "rectpack.geometry") 194) (@Option.none.{0} @Nat) (@PySem.Value.ref 162) @PySem.Value.none 0)) (@List.toArray.{0} (@Option.{0} @PySem.Value) (@List.nil.{0} (@Option.{0} @PySem.Value))))) ::
((nat_lit 164), (@PySem.Obj.mk (@PySem.Value.type "tuple") (@Option.none.{0} @Nat) (@PySem.Data.seq (@List.toArray.{0} @PySem.Value (@List.nil.{0} @PySem.Value)) 0) (@List.toArray.{0} (@Option.{0} @PySem.Value) (@List.nil.{0} (@Option.{0} @PySem.Value))))) ::
((nat_lit 166), (@PySem.Obj.mk (@PySem.Value.type "tuple") (@Option.none.{0} @Nat) (@PySem.Data.seq (@List.toArray.{0} @PySem.Value (@List.cons.{0} @PySem.Value (@PySem.Value.str (@PySem.Str.ofString "self") 365) (@List.cons.{0} @PySem.Value (@PySem.Value.str (@PySem.Str.ofString "x") 366) (@List.cons.{0} @PySem.Value (@PySem.Value.str (@PySem.Str.ofString "y") 367) (@List.nil.{0} @PySem.Value))))) 0) (@List.toArray.{0} (@Option.{0} @PySem.Value) (@List.nil.{0} (@Option.{0} @PySem.Value))))) ::
((nat_lit 167), (@PySem.Obj.mk (@PySem.Value.type "tuple") (@Option.none.{0} @Nat) (@PySem.Data.seq (@List.toArray.{0} @PySem.Value (@List.nil.{0} @PySem.Value)) 0) (@List.toArray.{0} (@Option.{0} @PySem.Value) (@List.nil.{0} (@Option.{0} @PySem.Value))))) ::
((nat_lit 169), (@PySem.Obj.mk (@PySem.Value.type "code") (@Option.none.{0} @Nat) (@PySem.Data.fields (@List.toArray.{0} @PySem.Value (@List.cons.{0} @PySem.Value (@PySem.Value.str (@PySem.Str.ofString "move") 362) (@List.cons.{0} @PySem.Value (@PySem.Value.str (@PySem.Str.ofString "Rectangle.move") 363) (@List.cons.{0} @PySem.Value (@PySem.Value.str (@PySem.Str.ofString "/claim/cut.py") 364) (@List.cons.{0} @PySem.Value (@PySem.Value.int (@OfNat.ofNat.{0} @Int (nat_lit 75) (@instOfNat (nat_lit 75))) 0) (@List.cons.{0} @PySem.Value (@PySem.Value.int (@OfNat.ofNat.{0} @Int (nat_lit 3) (@instOfNat (nat_lit 3))) 0) (@List.cons.{0} @PySem.Value (@PySem.Value.int (@OfNat.ofNat.{0} @Int (nat_lit 0) (@instOfNat (nat_lit 0))) 0) (@List.cons.{0} @PySem.Value (@PySem.Value.int (@OfNat.ofNat.{0} @Int (nat_lit 0) (@instOfNat (nat_lit 0))) 0) (@List.cons.{0} @PySem.Value (@PySem.Value.int (@OfNat.ofNat.{0} @Int (nat_lit 3) (@instOfNat (nat_lit 3))) 0) (@List.cons.{0} @PySem.Value (@PySem.Value.ref 164) (@List.cons.{0} @PySem.Value (@PySem.Value.bool @Bool.true) (@List.cons.{0} @PySem.Value (@PySem.Value.int (@OfNat.ofNat.{0} @Int (nat_lit 181) (@instOfNat (nat_lit 181))) 0) (@List.cons.{0} @PySem.Value (@PySem.Value.ref 165) (@List.cons.{0} @PySem.Value @PySem.Value.none (@List.cons.{0} @PySem.Value (@PySem.Value.ref 166) (@List.cons.{0} @PySem.Value (@PySem.Value.ref 167) (@List.cons.{0} @PySem.Value (@PySem.Value.ref 168) (@List.cons.{0} @PySem.Value (@PySem.Value.int (@OfNat.ofNat.{0} @Int (nat_lit 368) (@instOfNat (nat_lit 368))) 0) (@List.cons.{0} @PySem.Value (@PySem.Value.int (@OfNat.ofNat.{0} @Int (nat_lit 75) (@instOfNat (nat_lit 75))) 0) (@List.cons.{0} @PySem.Value (@PySem.Value.str (@PySem.Str.ofString "/claim/cut.py") 369) (@List.nil.{0} @PySem.Value)))))))))))))))))))))) (@List.toArray.{0} (@Option.{0} @PySem.Value) (@List.nil.{0} (@Option.{0} @PySem.Value))))) ::
((nat_lit 170), (@PySem.Obj.mk (@PySem.Value.type "function") (@Option.none.{0} @Nat) (@PySem.Data.func (@PySem.FuncData.mk (@PySem.Str.ofString "move") (@PySem.Str.ofString "Rectangle.move") a170 (@PySem.FuncBody.stmts b170) s170 3 (@List.nil.{0} (@Prod.{0, 0} @PySem.Str @Nat)) @PySem.Value.none @PySem.Value.none @PySem.Value.none (@PySem.Value.str (@PySem.Str.ofString "rectpack.geometry") 194) (@Option.none.{0} @Nat) (@PySem.Value.ref 169) @PySem.Value.none 0)) (@List.toArray.{0} (@Option.{0} @PySem.Value) (@List.nil.{0} (@Option.{0} @PySem.Value))))) ::
((nat_lit 171), (@PySem.Obj.mk (@PySem.Value.type "tuple") (@Option.none.{0} @Nat) (@PySem.Data.seq (@List.toArray.{0} @PySem.Value (@List.nil.{0} @PySem.Value)) 0) (@List.toArray.{0} (@Option.{0} @PySem.Value) (@List.nil.{0} (@Option.{0} @PySem.Value))))) ::
((nat_lit 173), (@PySem.Obj.mk (@PySem.Value.type "tuple") (@Option.none.{0} @Nat) (@PySem.Data.seq (@List.toArray.{0} @PySem.Value (@List.cons.{0} @PySem.Value (@PySem.Value.str (@PySem.Str.ofString "self") 374) (@List.cons.{0} @PySem.Value (@PySem.Value.str (@PySem.Str.ofString "rect") 375) (@List.nil.{0} @PySem.Value)))) 0) (@List.toArray.{0} (@Option.{0} @PySem.Value) (@List.nil.{0} (@Option.{0} @PySem.Value))))) ::
((nat_lit 174), (@PySem.Obj.mk (@PySem.Value.type "tuple") (@Option.none.{0} @Nat) (@PySem.Data.seq (@List.toArray.{0} @PySem.Value (@List.nil.{0} @PySem.Value)) 0) (@List.toArray.{0} (@Option.{0} @PySem.Value) (@List.nil.{0} (@Option.{0} @PySem.Value))))) ::
((nat_lit 176), (@PySem.Obj.mk (@PySem.Value.type "code") (@Option.none.{0} @Nat) (@PySem.Data.fields (@List.toArray.{0} @PySem.Value (@List.cons.{0} @PySem.Value (@PySem.Value.str (@PySem.Str.ofString "contains") 371) (@List.cons.{0} @PySem.Value (@PySem.Value.str (@PySem.Str.ofString "Rectangle.contains") 372) (@List.cons.{0} @PySem.Value (@PySem.Value.str (@PySem.Str.ofString "/claim/cut.py") 373) (@List.cons.{0} @PySem.Value (@PySem.Value.int (@OfNat.ofNat.{0} @Int (nat_lit 78) (@instOfNat (nat_lit 78))) 0) (@List.cons.{0} @PySem.Value (@PySem.Value.int (@OfNat.ofNat.{0} @Int (nat_lit 2) (@instOfNat (nat_lit 2))) 0) (@List.cons.{0} @PySem.Value (@PySem.Value.int (@OfNat.ofNat.{0} @Int (nat_lit 0) (@instOfNat (nat_lit 0))) 0) (@List.cons.{0} @PySem.Value (@PySem.Value.int (@OfNat.ofNat.{0} @Int (nat_lit 0) (@instOfNat (nat_lit 0))) 0) (@List.cons.{0} @PySem.Value (@PySem.Value.int (@OfNat.ofNat.{0} @Int (nat_lit 3) (@instOfNat (nat_lit 3))) 0) (@List.cons.{0} @PySem.Value (@PySem.Value.ref 171) (@List.cons.{0} @PySem.Value (@PySem.Value.bool @Bool.true) (@List.cons.{0} @PySem.Value (@PySem.Value.int (@OfNat.ofNat.{0} @Int (nat_lit 181) (@instOfNat (nat_lit 181))) 0) (@List.cons.{0} @PySem.Value (@PySem.Value.ref 172) (@List.cons.{0} @PySem.Value @PySem.Value.none (@List.cons.{0} @PySem.Value (@PySem.Value.ref 173) (@List.cons.{0} @PySem.Value (@PySem.Value.ref 174) (@List.cons.{0} @PySem.Value (@PySem.Value.ref 175) (@List.cons.{0} @PySem.Value (@PySem.Value.int (@OfNat.ofNat.{0} @Int (nat_lit 376) (@instOfNat (nat_lit 376))) 0) (@List.cons.{0} @PySem.Value (@PySem.Value.int (@OfNat.ofNat.{0} @Int (nat_lit 78) (@instOfNat (nat_lit 78))) 0) (@List.cons.{0} @PySem.Value (@PySem.Value.str (@PySem.Str.ofString "/claim/cut.py") 377) (@List.nil.{0} @PySem.Value)))))))))))))))))))))) (@List.toArray.{0} (@Option.{0} @PySem.Value) (@List.nil.{0} (@Option.{0} @PySem.Value))))) ::
((nat_lit 177), (@PySem.Obj.mk (@PySem.Value.type "function") (@Option.none.{0} @Nat) (@PySem.Data.func (@PySem.FuncData.mk (@PySem.Str.ofString "contains") (@PySem.Str.ofString "Rectangle.contains") a177 (@PySem.FuncBody.stmts b177) s177 3 (@List.nil.{0} (@Prod.{0, 0} @PySem.Str @Nat)) @PySem.Value.none @PySem.Value.none @PySem.Value.none (@PySem.Value.str (@PySem.Str.ofString "rectpack.geometry") 194) (@Option.none.{0} @Nat) (@PySem.Value.ref 176) @PySem.Value.none 0)) (@List.toArray.{0} (@Option.{0} @PySem.Value) (@List.nil.{0} (@Option.{0} @PySem.Value))))) ::
((nat_lit 178), (@PySem.Obj.mk (@PySem.Value.type "tuple") (@Option.none.{0} @Nat) (@PySem.Data.seq (@List.toArray.{0} @PySem.Value (@List.cons.{0} @PySem.Value (@PySem.Value.bool @Bool.false) (@List.nil.{0} @PySem.Value))) 0) (@List.toArray.{0} (@Option.{0} @PySem.Value) (@List.nil.{0} (@Option.{0} @PySem.Value))))) ::
((nat_lit 179), (@PySem.Obj.mk (@PySem.Value.type "tuple") (@Option.none.{0} @Nat) (@PySem.Data.seq (@List.toArray.{0} @PySem.Value (@List.nil.{0} @PySem.Value)) 0) (@List.toArray.{0} (@Option.{0} @PySem.Value) (@List.nil.{0} (@Option.{0} @PySem.Value))))) ::
((nat_lit 181), (@PySem.Obj.mk (@PySem.Value.type "tuple") (@Option.none.{0} @Nat) (@PySem.Data.seq (@List.toArray.{0} @PySem.Value (@List.cons.{0} @PySem.Value (@PySem.Value.str (@PySem.Str.ofString "self") 382) (@List.cons.{0} @PySem.Value (@PySem.Value.str (@PySem.Str.ofString "rect") 383) (@List.cons.{0} @PySem.Value (@PySem.Value.str (@PySem.Str.ofString "edges") 384) (@List.nil.{0} @PySem.Value))))) 0) (@List.toArray.{0} (@Option.{0} @PySem.Value) (@List.nil.{0} (@Option.{0} @PySem.Value))))) ::
((nat_lit 182), (@PySem.Obj.mk (@PySem.Value.type "tuple") (@Option.none.{0} @Nat) (@PySem.Data.seq (@List.toArray.{0} @PySem.Value (@List.nil.{0} @PySem.Value)) 0) (@List.toArray.{0} (@Option.{0} @PySem.Value) (@List.nil.{0} (@Option.{0} @PySem.Value))))) ::
((nat_lit 184), (@PySem.Obj.mk (@PySem.Value.type "code") (@Option.none.{0} @Nat) (@PySem.Data.fields (@List.toArray.{0} @PySem.Value (@List.cons.{0} @PySem.Value (@PySem.Value.str (@PySem.Str.ofString "intersects") 379) (@List.cons.{0} @PySem.Value (@PySem.Value.str (@PySem.Str.ofString "Rectangle.intersects") 380) (@List.cons.{0} @PySem.Value (@PySem.Value.str (@PySem.Str.ofString "/claim/cut.py") 381) (@List.cons.{0} @PySem.Value (@PySem.Value.int (@OfNat.ofNat.{0} @Int (nat_lit 81) (@instOfNat (nat_lit 81))) 0) (@List.cons.{0} @PySem.Value (@PySem.Value.int (@OfNat.ofNat.{0} @Int (nat_lit 3) (@instOfNat (nat_lit 3))) 0) (@List.cons.{0} @PySem.Value (@PySem.Value.int (@OfNat.ofNat.{0} @Int (nat_lit 0) (@instOfNat (nat_lit 0))) 0) (@List.cons.{0} @PySem.Value (@PySem.Value.int (@OfNat.ofNat.{0} @Int (nat_lit 0) (@instOfNat (nat_lit 0))) 0) (@List.cons.{0} @PySem.Value (@PySem.Value.int (@OfNat.ofNat.{0} @Int (nat_lit 3) (@instOfNat (nat_lit 3))) 0) (@List.cons.{0} @PySem.Value (@PySem.Value.ref 179) (@List.cons.{0} @PySem.Value (@PySem.Value.bool @Bool.true) (@List.cons.{0} @PySem.Value (@PySem.Value.int (@OfNat.ofNat.{0} @Int (nat_lit 181) (@instOfNat (nat_lit 181))) 0) (@List.cons.{0} @PySem.Value (@PySem.Value.ref 180) (@List.cons.{0} @PySem.Value @PySem.Value.none (@List.cons.{0} @PySem.Value (@PySem.Value.ref 181) (@List.cons.{0} @PySem.Value (@PySem.Value.ref 182) (@List.cons.{0} @PySem.Value (@PySem.Value.ref 183) (@List.cons.{0} @PySem.Value (@PySem.Value.int (@OfNat.ofNat.{0} @Int (nat_lit 385) (@instOfNat (nat_lit 385))) 0) (@List.cons.{0} @PySem.Value (@PySem.Value.int (@OfNat.ofNat.{0} @Int (nat_lit 81) (@instOfNat (nat_lit 81))) 0) (@List.cons.{0} @PySem.Value (@PySem.Value.str (@PySem.Str.ofString "/claim/cut.py") 386) (@List.nil.{0} @PySem.Value)))))))))))))))))))))) (@List.toArray.{0} (@Option.{0} @PySem.Value) (@List.nil.{0} (@Option.{0} @PySem.Value))))) ::
((nat_lit 185), (@PySem.Obj.mk (@PySem.Value.type "function") (@Option.none.{0} @Nat) (@PySem.Data.func (@PySem.FuncData.mk (@PySem.Str.ofString "intersects") (@PySem.Str.ofString "Rectangle.intersects") a185 (@PySem.FuncBody.stmts b185) s185 3 (@List.nil.{0} (@Prod.{0, 0} @PySem.Str @Nat)) (@PySem.Value.ref 178) @PySem.Value.none @PySem.Value.none (@PySem.Value.str (@PySem.Str.ofString "rectpack.geometry") 194) (@Option.none.{0} @Nat) (@PySem.Value.ref 184) @PySem.Value.none 0)) (@List.toArray.{0} (@Option.{0} @PySem.Value) (@List.nil.{0} (@Option.{0} @PySem.Value))))) ::
((nat_lit 186), (@PySem.Obj.mk (@PySem.Value.type "tuple") (@Option.none.{0} @Nat) (@PySem.Data.seq (@List.toArray.{0} @PySem.Value (@List.cons.{0} @PySem.Value (@PySem.Value.bool @Bool.false) (@List.nil.{0} @PySem.Value))) 0) (@List.toArray.{0} (@Option.{0} @PySem.Value) (@List.nil.{0} (@Option.{0} @PySem.Value))))) ::
((nat_lit 187), (@PySem.Obj.mk (@PySem.Value.type "tuple") (@Option.none.{0} @Nat) (@PySem.Data.seq (@List.toArray.{0} @PySem.Value (@List.nil.{0} @PySem.Value)) 0) (@List.toArray.{0} (@Option.{0} @PySem.Value) (@List.nil.{0} (@Option.{0} @PySem.Value))))) ::
((nat_lit 189), (@PySem.Obj.mk (@PySem.Value.type "tuple") (@Option.none.{0} @Nat) (@PySem.Data.seq (@List.toArray.{0} @PySem.Value (@List.cons.{0} @PySem.Value (@PySem.Value.str (@PySem.Str.ofString "self") 391) (@List.cons.{0} @PySem.Value (@PySem.Value.str (@PySem.Str.ofString "rect") 392) (@List.cons.{0} @PySem.Value (@PySem.Value.str (@PySem.Str.ofString "edges") 393) (@List.cons.{0} @PySem.Value (@PySem.Value.str (@PySem.Str.ofString "bottom") 394) (@List.cons.{0} @PySem.Value (@PySem.Value.str (@PySem.Str.ofString "left") 395) (@List.cons.{0} @PySem.Value (@PySem.Value.str (@PySem.Str.ofString "top") 396) (@List.cons.{0} @PySem.Value (@PySem.Value.str (@PySem.Str.ofString "right") 397) (@List.nil.{0} @PySem.Value))))))))) 0) (@List.toArray.{0} (@Option.{0} @PySem.Value) (@List.nil.{0} (@Option.{0} @PySem.Value))))) ::
((nat_lit 190), (@PySem.Obj.mk (@PySem.Value.type "tuple") (@Option.none.{0} @Nat) (@PySem.Data.seq (@List.toArray.{0} @PySem.Value (@List.nil.{0} @PySem.Value)) 0) (@List.toArray.{0} (@Option.{0} @PySem.Value) (@List.nil.{0} (@Option.{0} @PySem.Value))))) ::
((nat_lit 192), (@PySem.Obj.mk (@PySem.Value.type "code") (@Option.none.{0} @Nat) (@PySem.Data.fields (@List.toArray.{0} @PySem.Value (@List.cons.{0} @PySem.Value (@PySem.Value.str (@PySem.Str.ofString "intersection") 388) (@List.cons.{0} @PySem.Value (@PySem.Value.str (@PySem.Str.ofString "Rectangle.intersection") 389) (@List.cons.{0} @PySem.Value (@PySem.Value.str (@PySem.Str.ofString "/claim/cut.py") 390) (@List.cons.{0} @PySem.Value (@PySem.Value.int (@OfNat.ofNat.{0} @Int (nat_lit 89) (@instOfNat (nat_lit 89))) 0) (@List.cons.{0} @PySem.Value (@PySem.Value.int (@OfNat.ofNat.{0} @Int (nat_lit 3) (@instOfNat (nat_lit 3))) 0) (@List.cons.{0} @PySem.Value (@PySem.Value.int (@OfNat.ofNat.{0} @Int (nat_lit 0) (@instOfNat (nat_lit 0))) 0) (@List.cons.{0} @PySem.Value (@PySem.Value.int (@OfNat.ofNat.{0} @Int (nat_lit 0) (@instOfNat (nat_lit 0))) 0) (@List.cons.{0} @PySem.Value (@PySem.Value.int (@OfNat.ofNat.{0} @Int (nat_lit 3) (@instOfNat (nat_lit 3))) 0) (@List.cons.{0} @PySem.Value (@PySem.Value.ref 187) (@List.cons.{0} @PySem.Value (@PySem.Value.bool @Bool.true) (@List.cons.{0} @PySem.Value (@PySem.Value.int (@OfNat.ofNat.{0} @Int (nat_lit 181) (@instOfNat (nat_lit 181))) 0) (@List.cons.{0} @PySem.Value (@PySem.Value.ref 188) (@List.cons.{0} @PySem.Value @PySem.Value.none (@List.cons.{0} @PySem.Value (@PySem.Value.ref 189) (@List.cons.{0} @PySem.Value (@PySem.Value.ref 190) (@List.cons.{0} @PySem.Value (@PySem.Value.ref 191) (@List.cons.{0} @PySem.Value (@PySem.Value.int (@OfNat.ofNat.{0} @Int (nat_lit 398) (@instOfNat (nat_lit 398))) 0) (@List.cons.{0} @PySem.Value (@PySem.Value.int (@OfNat.ofNat.{0} @Int (nat_lit 89) (@instOfNat (nat_lit 89))) 0) (@List.cons.{0} @PySem.Value (@PySem.Value.str (@PySem.Str.ofString "/claim/cut.py") 399) (@List.nil.{0} @PySem.Value)))))))))))))))))))))) (@List.toArray.{0} (@Option.{0} @PySem.Value) (@List.nil.{0} (@Option.{0} @PySem.Value))))) ::
((nat_lit 193), (@PySem.Obj.mk (@PySem.Value.type "function") (@Option.none.{0} @Nat) (@PySem.Data.func (@PySem.FuncData.mk (@PySem.Str.ofString "intersection") (@PySem.Str.ofString "Rectangle.intersection") a193 (@PySem.FuncBody.stmts b193) s193 3 (@List.nil.{0} (@Prod.{0, 0} @PySem.Str @Nat)) (@PySem.Value.ref 186) @PySem.Value.none @PySem.Value.none (@PySem.Value.str (@PySem.Str.ofString "rectpack.geometry") 194) (@Option.none.{0} @Nat) (@PySem.Value.ref 192) @PySem.Value.none 0)) (@List.toArray.{0} (@Option.{0} @PySem.Value) (@List.nil.{0} (@Option.{0} @PySem.Value))))) ::
((nat_lit 194), (@PySem.Obj.mk (@PySem.Value.type "tuple") (@Option.none.{0} @Nat) (@PySem.Data.seq (@List.toArray.{0} @PySem.Value (@List.nil.{0} @PySem.Value)) 0) (@List.toArray.{0} (@Option.{0} @PySem.Value) (@List.nil.{0} (@Option.{0} @PySem.Value))))) ::
((nat_lit 196), (@PySem.Obj.mk (@PySem.Value.type "tuple") (@Option.none.{0} @Nat) (@PySem.Data.seq (@List.toArray.{0} @PySem.Value (@List.cons.{0} @PySem.Value (@PySem.Value.str (@PySem.Str.ofString "self") 404) (@List.cons.{0} @PySem.Value (@PySem.Value.str (@PySem.Str.ofString "other") 405) (@List.cons.{0} @PySem.Value (@PySem.Value.str (@PySem.Str.ofString "y_min") 406) (@List.cons.{0} @PySem.Value (@PySem.Value.str (@PySem.Str.ofString "y_max") 407) (@List.cons.{0} @PySem.Value (@PySem.Value.str (@PySem.Str.ofString "x_min") 408) (@List.cons.{0} @PySem.Value (@PySem.Value.str (@PySem.Str.ofString "x_max") 409) (@List.nil.{0} @PySem.Value)))))))) 0) (@List.toArray.{0} (@Option.{0} @PySem.Value) (@List.nil.{0} (@Option.{0} @PySem.Value))))) ::
((nat_lit 197), (@PySem.Obj.mk (@PySem.Value.type "tuple") (@Option.none.{0} @Nat) (@PySem.Data.seq (@List.toArray.{0} @PySem.Value (@List.nil.{0} @PySem.Value)) 0) (@List.toArray.{0} (@Option.{0} @PySem.Value) (@List.nil.{0} (@Option.{0} @PySem.Value))))) ::
((nat_lit 199), (@PySem.Obj.mk (@PySem.Value.type "code") (@Option.none.{0} @Nat) (@PySem.Data.fields (@List.toArray.{0} @PySem.Value (@List.cons.{0} @PySem.Value (@PySem.Value.str (@PySem.Str.ofString "join") 401) (@List.cons.{0} @PySem.Value (@PySem.Value.str (@PySem.Str.ofString "Rectangle.join") 402) (@List.cons.{0} @PySem.Value (@PySem.Value.str (@PySem.Str.ofString "/claim/cut.py") 403) (@List.cons.{0} @PySem.Value (@PySem.Value.int (@OfNat.ofNat.{0} @Int (nat_lit 98) (@instOfNat (nat_lit 98))) 0) (@List.cons.{0} @PySem.Value (@PySem.Value.int (@OfNat.ofNat.{0} @Int (nat_lit 2) (@instOfNat (nat_lit 2))) 0) (@List.cons.{0} @PySem.Value (@PySem.Value.int (@OfNat.ofNat.{0} @Int (nat_lit 0) (@instOfNat (nat_lit 0))) 0) (@List.cons.{0} @PySem.Value (@PySem.Value.int (@OfNat.ofNat.{0} @Int (nat_lit 0) (@instOfNat (nat_lit 0))) 0) (@List.cons.{0} @PySem.Value (@PySem.Value.int (@OfNat.ofNat.{0} @Int (nat_lit 3) (@instOfNat (nat_lit 3))) 0) (@List.cons.{0} @PySem.Value (@PySem.Value.ref 194) (@List.cons.{0} @PySem.Value (@PySem.Value.bool @Bool.true) (@List.cons.{0} @PySem.Value (@PySem.Value.int (@OfNat.ofNat.{0} @Int (nat_lit 181) (@instOfNat (nat_lit 181))) 0) (@List.cons.{0} @PySem.Value (@PySem.Value.ref 195) (@List.cons.{0} @PySem.Value @PySem.Value.none (@List.cons.{0} @PySem.Value (@PySem.Value.ref 196) (@List.cons.{0} @PySem.Value (@PySem.Value.ref 197) (@List.cons.{0} @PySem.Value (@PySem.Value.ref 198) (@List.cons.{0} @PySem.Value (@PySem.Value.int (@OfNat.ofNat.{0} @Int (nat_lit 410) (@instOfNat (nat_lit 410))) 0) (@List.cons.{0} @PySem.Value (@PySem.Value.int (@OfNat.ofNat.{0} @Int (nat_lit 98) (@instOfNat (nat_lit 98))) 0) (@List.cons.{0} @PySem.Value (@PySem.Value.str (@PySem.Str.ofString "/claim/cut.py") 411) (@List.nil.{0} @PySem.Value)))))))))))))))))))))) (@List.toArray.{0} (@Option.{0} @PySem.Value) (@List.nil.{0} (@Option.{0} @PySem.Value))))) ::
((nat_lit 200), (@PySem.Obj.mk (@PySem.Value.type "function") (@Option.none.{0} @Nat) (@PySem.Data.func (@PySem.FuncData.mk (@PySem.Str.ofString "join") (@PySem.Str.ofString "Rectangle.join") a200 (@PySem.FuncBody.stmts b200) s200 3 (@List.nil.{0} (@Prod.{0, 0} @PySem.Str @Nat)) @PySem.Value.none @PySem.Value.none @PySem.Value.none (@PySem.Value.str (@PySem.Str.ofString "rectpack.geometry") 194) (@Option.none.{0} @Nat) (@PySem.Value.ref 199) @PySem.Value.none 0)) (@List.toArray.{0} (@Option.{0} @PySem.Value) (@List.nil.{0} (@Option.{0} @PySem.Value))))) ::
((nat_lit 201), (@PySem.Obj.mk (@PySem.Value.type "tuple") (@Option.none.{0} @Nat) (@PySem.Data.seq (@List.toArray.{0} @PySem.Value (@List.cons.{0} @PySem.Value (@PySem.Value.str (@PySem.Str.ofString "height") 413) (@List.cons.{0} @PySem.Value (@PySem.Value.str (@PySem.Str.ofString "rid") 414) (@List.cons.{0} @PySem.Value (@PySem.Value.str (@PySem.Str.ofString "width") 415) (@List.cons.{0} @PySem.Value (@PySem.Value.str (@PySem.Str.ofString "x") 416) (@List.cons.{0} @PySem.Value (@PySem.Value.str (@PySem.Str.ofString "y") 417) (@List.nil.{0} @PySem.Value))))))) 0) (@List.toArray.{0} (@Option.{0} @PySem.Value) (@List.nil.{0} (@Option.{0} @PySem.Value))))) ::
((nat_lit 202), (@PySem.Obj.mk (@PySem.Value.type "dict") (@Option.none.{0} @Nat) (@PySem.Data.dict (@List.toArray.{0} @PySem.DictEntry (@List.cons.{0} @PySem.DictEntry (@PySem.DictEntry.mk (@PySem.PyData.keyHash P (@PySem.Str.ofString "__module__")) (@PySem.Value.str (@PySem.Str.ofString "__module__") 251) (@PySem.Value.str (@PySem.Str.ofString "rectpack.geometry") 194)) (@List.cons.{0} @PySem.DictEntry (@PySem.DictEntry.mk (@PySem.PyData.keyHash P (@PySem.Str.ofString "__firstlineno__")) (@PySem.Value.str (@PySem.Str.ofString "__firstlineno__") 255) (@PySem.Value.int (@OfNat.ofNat.{0} @Int (nat_lit 16) (@instOfNat (nat_lit 16))) 254)) (@List.cons.{0} @PySem.DictEntry (@PySem.DictEntry.mk (@PySem.PyData.keyHash P (@PySem.Str.ofString "__init__")) (@PySem.Value.str (@PySem.Str.ofString "__init__") 267) (@PySem.Value.ref 71)) (@List.cons.{0} @PySem.DictEntry (@PySem.DictEntry.mk (@PySem.PyData.keyHash P (@PySem.Str.ofString "bottom")) (@PySem.Value.str (@PySem.Str.ofString "bottom") 275) (@PySem.Value.ref 79)) (@List.cons.{0} @PySem.DictEntry (@PySem.DictEntry.mk (@PySem.PyData.keyHash P (@PySem.Str.ofString "top")) (@PySem.Value.str (@PySem.Str.ofString "top") 283) (@PySem.Value.ref 87)) (@List.cons.{0} @PySem.DictEntry (@PySem.DictEntry.mk (@PySem.PyData.keyHash P (@PySem.Str.ofString "left")) (@PySem.Value.str (@PySem.Str.ofString "left") 291) (@PySem.Value.ref 95)) (@List.cons.{0} @PySem.DictEntry (@PySem.DictEntry.mk (@PySem.PyData.keyHash P (@PySem.Str.ofString "right")) (@PySem.Value.str (@PySem.Str.ofString "right") 299) (@PySem.Value.ref 103)) (@List.cons.{0} @PySem.DictEntry (@PySem.DictEntry.mk (@PySem.PyData.keyHash P (@PySem.Str.ofString "corner_top_l")) (@PySem.Value.str (@PySem.Str.ofString "corner_top_l") 307) (@PySem.Value.ref 111)) (@List.cons.{0} @PySem.DictEntry (@PySem.DictEntry.mk (@PySem.PyData.keyHash P (@PySem.Str.ofString "corner_top_r")) (@PySem.Value.str (@PySem.Str.ofString "corner_top_r") 315) (@PySem.Value.ref 119)) (@List.cons.{0} @PySem.DictEntry (@PySem.DictEntry.mk (@PySem.PyData.keyHash P (@PySem.Str.ofString "corner_bot_r")) (@PySem.Value.str (@PySem.Str.ofString "corner_bot_r") 323) (@PySem.Value.ref 127)) (@List.cons.{0} @PySem.DictEntry (@PySem.DictEntry.mk (@PySem.PyData.keyHash P (@PySem.Str.ofString "corner_bot_l")) (@PySem.Value.str (@PySem.Str.ofString "corner_bot_l") 331) (@PySem.Value.ref 135)) (@List.cons.{0} @PySem.DictEntry (@PySem.DictEntry.mk (@PySem.PyData.keyHash P (@PySem.Str.ofString "__lt__")) (@PySem.Value.str (@PySem.Str.ofString "__lt__") 339) (@PySem.Value.ref 142)) (@List.cons.{0} @PySem.DictEntry (@PySem.DictEntry.mk (@PySem.PyData.keyHash P (@PySem.Str.ofString "__eq__")) (@PySem.Value.str (@PySem.Str.ofString "__eq__") 347) (@PySem.Value.ref 149)) (@List.cons.{0} @PySem.DictEntry (@PySem.DictEntry.mk (@PySem.PyData.keyHash P (@PySem.Str.ofString "__iter__")) (@PySem.Value.str (@PySem.Str.ofString "__iter__") 354) (@PySem.Value.ref 156)) (@List.cons.{0} @PySem.DictEntry (@PySem.DictEntry.mk (@PySem.PyData.keyHash P (@PySem.Str.ofString "area")) (@PySem.Value.str (@PySem.Str.ofString "area") 361) (@PySem.Value.ref 163)) (@List.cons.{0} @PySem.DictEntry (@PySem.DictEntry.mk (@PySem.PyData.keyHash P (@PySem.Str.ofString "move")) (@PySem.Value.str (@PySem.Str.ofString "move") 370) (@PySem.Value.ref 170)) (@List.cons.{0} @PySem.DictEntry (@PySem.DictEntry.mk (@PySem.PyData.keyHash P (@PySem.Str.ofString "contains")) (@PySem.Value.str (@PySem.Str.ofString "contains") 378) (@PySem.Value.ref 177)) (@List.cons.{0} @PySem.DictEntry (@PySem.DictEntry.mk (@PySem.PyData.keyHash P (@PySem.Str.ofString "intersects")) (@PySem.Value.str (@PySem.Str.ofString "intersects") 387) (@PySem.Value.ref 185)) (@List.cons.{0} @PySem.DictEntry (@PySem.DictEntry.mk (@PySem.PyData.keyHash P (@PySem.Str.ofString "intersection")) (@PySem.Value.str (@PySem.Str.ofString "intersection") 400) (@PySem.Value.ref 193)) (@List.cons.{0} @PySem.DictEntry (@PySem.DictEntry.mk (@PySem.PyData.keyHash P (@PySem.Str.ofString "join")) (@PySem.Value.str (@PySem.Str.ofString "join") 412) (@PySem.Value.ref 200)) (@List.cons.{0} @PySem.DictEntry (@PySem.DictEntry.mk (@PySem.PyData.keyHash P (@PySem.Str.ofString "__static_attributes__")) (@PySem.Value.str (@PySem.Str.ofString "__static_attributes__") 418) (@PySem.Value.ref 201)) (@List.cons.{0} @PySem.DictEntry (@PySem.DictEntry.mk (@PySem.PyData.keyHash P (@PySem.Str.ofString "__dict__")) (@PySem.Value.str (@PySem.Str.ofString "__dict__") 420) (@PySem.Value.ref 204)) (@List.cons.{0} @PySem.DictEntry (@PySem.DictEntry.mk (@PySem.PyData.keyHash P (@PySem.Str.ofString "__weakref__")) (@PySem.Value.str (@PySem.Str.ofString "__weakref__") 422) (@PySem.Value.ref 205)) (@List.cons.{0} @PySem.DictEntry (@PySem.DictEntry.mk (@PySem.PyData.keyHash P (@PySem.Str.ofString "__doc__")) (@PySem.Value.str (@PySem.Str.ofString "__doc__") 423) @PySem.Value.none) (@List.cons.{0} @PySem.DictEntry (@PySem.DictEntry.mk (@PySem.PyData.keyHash P (@PySem.Str.ofString "__hash__")) (@PySem.Value.str (@PySem.Str.ofString "__hash__") 424) @PySem.Value.none) (@List.nil.{0} @PySem.DictEntry))))))))))))))))))))))))))) 5) (@List.toArray.{0} (@Option.{0} @PySem.Value) (@List.nil.{0} (@Option.{0} @PySem.Value))))) ::
((nat_lit 203), (@PySem.Obj.mk (@PySem.Value.type "type") (@Option.none.{0} @Nat) (@PySem.Data.cls (@PySem.ClassData.mk (@PySem.Str.ofString "Rectangle") (@List.cons.{0} @PySem.Value (@PySem.Value.type "object") (@List.nil.{0} @PySem.Value)) (@List.cons.{0} @PySem.Value (@PySem.Value.ref 203) (@List.cons.{0} @PySem.Value (@PySem.Value.type "object") (@List.nil.{0} @PySem.Value))) 202 (@PySem.Str.ofString "Rectangle") @Bool.true (@List.nil.{0} @PySem.Str) (@List.nil.{0} @PySem.Value) @Bool.false (@Option.none.{0} @Bool) @Bool.false)) (@List.toArray.{0} (@Option.{0} @PySem.Value) (@List.cons.{0} (@Option.{0} @PySem.Value) (@Option.some.{0} @PySem.Value (@PySem.Value.ref 57)) (@List.cons.{0} (@Option.{0} @PySem.Value) (@Option.none.{0} @PySem.Value) (@List.cons.{0} (@Option.{0} @PySem.Value) (@Option.some.{0} @PySem.Value (@PySem.Value.str (@PySem.Str.ofString "Rectangle") 244)) (@List.cons.{0} (@Option.{0} @PySem.Value) (@Option.some.{0} @PySem.Value (@PySem.Value.str (@PySem.Str.ofString "Rectangle") 252)) (@List.cons.{0} (@Option.{0} @PySem.Value) (@Option.some.{0} @PySem.Value (@PySem.Value.builtin "object.__new__")) (@List.cons.{0} (@Option.{0} @PySem.Value) (@Option.some.{0} @PySem.Value (@PySem.Value.bool @Bool.true)) (@List.nil.{0} (@Option.{0} @PySem.Value))))))))))) ::
((nat_lit 204), (@PySem.Obj.mk (@PySem.Value.type "getset_descriptor") (@Option.none.{0} @Nat) (@PySem.Data.fields (@List.toArray.{0} @PySem.Value (@List.cons.{0} @PySem.Value (@PySem.Value.str (@PySem.Str.ofString "__dict__") 419) (@List.cons.{0} @PySem.Value (@PySem.Value.ref 203) (@List.cons.{0} @PySem.Value (@PySem.Value.builtin "function.__dict__") (@List.cons.{0} @PySem.Value (@PySem.Value.builtin "function.__dict__#set") (@List.nil.{0} @PySem.Value))))))) (@List.toArray.{0} (@Option.{0} @PySem.Value) (@List.nil.{0} (@Option.{0} @PySem.Value))))) ::
((nat_lit 205), (@PySem.Obj.mk (@PySem.Value.type "getset_descriptor") (@Option.none.{0} @Nat) (@PySem.Data.fields (@List.toArray.{0} @PySem.Value (@List.cons.{0} @PySem.Value (@PySem.Value.str (@PySem.Str.ofString "__weakref__") 421) (@List.cons.{0} @PySem.Value (@PySem.Value.ref 203) (@List.cons.{0} @PySem.Value (@PySem.Value.builtin "ExceptionGroup.__weakref__") (@List.cons.{0} @PySem.Value @PySem.Value.none (@List.nil.{0} @PySem.Value))))))) (@List.toArray.{0} (@Option.{0} @PySem.Value) (@List.nil.{0} (@Option.{0} @PySem.Value))))) ::
((nat_lit 208), (@PySem.Obj.mk (@PySem.Value.type "tuple") (@Option.none.{0} @Nat) (@PySem.Data.seq (@List.toArray.{0} @PySem.Value (@List.nil.{0} @PySem.Value)) 0) (@List.toArray.{0} (@Option.{0} @PySem.Value) (@List.nil.{0} (@Option.{0} @PySem.Value))))) ::
((nat_lit 210), (@PySem.Obj.mk (@PySem.Value.type "tuple") (@Option.none.{0} @Nat) (@PySem.Data.seq (@List.toArray.{0} @PySem.Value (@List.cons.{0} @PySem.Value (@PySem.Value.str (@PySem.Str.ofString "script") 432) (@List.cons.{0} @PySem.Value (@PySem.Value.str (@PySem.Str.ofString "k") 433) (@List.cons.{0} @PySem.Value (@PySem.Value.str (@PySem.Str.ofString "other") 434) (@List.nil.{0} @PySem.Value))))) 0) (@List.toArray.{0} (@Option.{0} @PySem.Value) (@List.nil.{0} (@Option.{0} @PySem.Value))))) ::
((nat_lit 211), (@PySem.Obj.mk (@PySem.Value.type "tuple") (@Option.none.{0} @Nat) (@PySem.Data.seq (@List.toArray.{0} @PySem.Value (@List.nil.{0} @PySem.Value)) 0) (@List.toArray.{0} (@Option.{0} @PySem.Value) (@List.nil.{0} (@Option.{0} @PySem.Value))))) ::
((nat_lit 213), (@PySem.Obj.mk (@PySem.Value.type "code") (@Option.none.{0} @Nat) (@PySem.Data.fields (@List.toArray.{0} @PySem.Value (@List.cons.{0} @PySem.Value (@PySem.Value.str (@PySem.Str.ofString "_law_at") 429) (@List.cons.{0} @PySem.Value (@PySem.Value.str (@PySem.Str.ofString "_law_at") 430) (@List.cons.{0} @PySem.Value (@PySem.Value.str (@PySem.Str.ofString "/claim/cut.py") 431) (@List.cons.{0} @PySem.Value (@PySem.Value.int (@OfNat.ofNat.{0} @Int (nat_lit 123) (@instOfNat (nat_lit 123))) 0) (@List.cons.{0} @PySem.Value (@PySem.Value.int (@OfNat.ofNat.{0} @Int (nat_lit 3) (@instOfNat (nat_lit 3))) 0) (@List.cons.{0} @PySem.Value (@PySem.Value.int (@OfNat.ofNat.{0} @Int (nat_lit 0) (@instOfNat (nat_lit 0))) 0) (@List.cons.{0} @PySem.Value (@PySem.Value.int (@OfNat.ofNat.{0} @Int (nat_lit 0) (@instOfNat (nat_lit 0))) 0) (@List.cons.{0} @PySem.Value (@PySem.Value.int (@OfNat.ofNat.{0} @Int (nat_lit 3) (@instOfNat (nat_lit 3))) 0) (@List.cons.{0} @PySem.Value (@PySem.Value.ref 208) (@List.cons.{0} @PySem.Value (@PySem.Value.bool @Bool.true) (@List.cons.{0} @PySem.Value (@PySem.Value.int (@OfNat.ofNat.{0} @Int (nat_lit 181) (@instOfNat (nat_lit 181))) 0) (@List.cons.{0} @PySem.Value (@PySem.Value.ref 209) (@List.cons.{0} @PySem.Value @PySem.Value.none (@List.cons.{0} @PySem.Value (@PySem.Value.ref 210) (@List.cons.{0} @PySem.Value (@PySem.Value.ref 211) (@List.cons.{0} @PySem.Value (@PySem.Value.ref 212) (@List.cons.{0} @PySem.Value (@PySem.Value.int (@OfNat.ofNat.{0} @Int (nat_lit 435) (@instOfNat (nat_lit 435))) 0) (@List.cons.{0} @PySem.Value (@PySem.Value.int (@OfNat.ofNat.{0} @Int (nat_lit 123) (@instOfNat (nat_lit 123))) 0) (@List.cons.{0} @PySem.Value (@PySem.Value.str (@PySem.Str.ofString "/claim/cut.py") 436) (@List.nil.{0} @PySem.Value)))))))))))))))))))))) (@List.toArray.{0} (@Option.{0} @PySem.Value) (@List.nil.{0} (@Option.{0} @PySem.Value))))) ::
((nat_lit 214), (@PySem.Obj.mk (@PySem.Value.type "function") (@Option.none.{0} @Nat) (@PySem.Data.func (@PySem.FuncData.mk (@PySem.Str.ofString "_law_at") (@PySem.Str.ofString "_law_at") a214 (@PySem.FuncBody.stmts b214) s214 3 (@List.nil.{0} (@Prod.{0, 0} @PySem.Str @Nat)) @PySem.Value.none @PySem.Value.none @PySem.Value.none (@PySem.Value.str (@PySem.Str.ofString "law_jb0029_01") 427) (@Option.none.{0} @Nat) (@PySem.Value.ref 213) @PySem.Value.none 0)) (@List.toArray.{0} (@Option.{0} @PySem.Value) (@List.nil.{0} (@Option.{0} @PySem.Value))))) ::
((nat_lit 215), (@PySem.Obj.mk (@PySem.Value.type "tuple") (@Option.none.{0} @Nat) (@PySem.Data.seq (@List.toArray.{0} @PySem.Value (@List.nil.{0} @PySem.Value)) 0) (@List.toArray.{0} (@Option.{0} @PySem.Value) (@List.nil.{0} (@Option.{0} @PySem.Value))))) ::
((nat_lit 217), (@PySem.Obj.mk (@PySem.Value.type "tuple") (@Option.none.{0} @Nat) (@PySem.Data.seq (@List.toArray.{0} @PySem.Value (@List.cons.{0} @PySem.Value (@PySem.Value.str (@PySem.Str.ofString "pick") 441) (@List.cons.{0} @PySem.Value (@PySem.Value.str (@PySem.Str.ofString "begin") 442) (@List.cons.{0} @PySem.Value (@PySem.Value.str (@PySem.Str.ofString "size") 443) (@List.cons.{0} @PySem.Value (@PySem.Value.str (@PySem.Str.ofString "start") 444) (@List.cons.{0} @PySem.Value (@PySem.Value.str (@PySem.Str.ofString "length") 445) (@List.nil.{0} @PySem.Value))))))) 0) (@List.toArray.{0} (@Option.{0} @PySem.Value) (@List.nil.{0} (@Option.{0} @PySem.Value))))) ::
((nat_lit 218), (@PySem.Obj.mk (@PySem.Value.type "tuple") (@Option.none.{0} @Nat) (@PySem.Data.seq (@List.toArray.{0} @PySem.Value (@List.nil.{0} @PySem.Value)) 0) (@List.toArray.{0} (@Option.{0} @PySem.Value) (@List.nil.{0} (@Option.{0} @PySem.Value))))) ::
((nat_lit 220), (@PySem.Obj.mk (@PySem.Value.type "code") (@Option.none.{0} @Nat) (@PySem.Data.fields (@List.toArray.{0} @PySem.Value (@List.cons.{0} @PySem.Value (@PySem.Value.str (@PySem.Str.ofString "_law_second") 438) (@List.cons.{0} @PySem.Value (@PySem.Value.str (@PySem.Str.ofString "_law_second") 439) (@List.cons.{0} @PySem.Value (@PySem.Value.str (@PySem.Str.ofString "/claim/cut.py") 440) (@List.cons.{0} @PySem.Value (@PySem.Value.int (@OfNat.ofNat.{0} @Int (nat_lit 125) (@instOfNat (nat_lit 125))) 0) (@List.cons.{0} @PySem.Value (@PySem.Value.int (@OfNat.ofNat.{0} @Int (nat_lit 5) (@instOfNat (nat_lit 5))) 0) (@List.cons.{0} @PySem.Value (@PySem.Value.int (@OfNat.ofNat.{0} @Int (nat_lit 0) (@instOfNat (nat_lit 0))) 0) (@List.cons.{0} @PySem.Value (@PySem.Value.int (@OfNat.ofNat.{0} @Int (nat_lit 0) (@instOfNat (nat_lit 0))) 0) (@List.cons.{0} @PySem.Value (@PySem.Value.int (@OfNat.ofNat.{0} @Int (nat_lit 3) (@instOfNat (nat_lit 3))) 0) (@List.cons.{0} @PySem.Value (@PySem.Value.ref 215) (@List.cons.{0} @PySem.Value (@PySem.Value.bool @Bool.true) (@List.cons.{0} @PySem.Value (@PySem.Value.int (@OfNat.ofNat.{0} @Int (nat_lit 181) (@instOfNat (nat_lit 181))) 0) (@List.cons.{0} @PySem.Value (@PySem.Value.ref 216) (@List.cons.{0} @PySem.Value @PySem.Value.none (@List.cons.{0} @PySem.Value (@PySem.Value.ref 217) (@List.cons.{0} @PySem.Value (@PySem.Value.ref 218) (@List.cons.{0} @PySem.Value (@PySem.Value.ref 219) (@List.cons.{0} @PySem.Value (@PySem.Value.int (@OfNat.ofNat.{0} @Int (nat_lit 446) (@instOfNat (nat_lit 446))) 0) (@List.cons.{0} @PySem.Value (@PySem.Value.int (@OfNat.ofNat.{0} @Int (nat_lit 125) (@instOfNat (nat_lit 125))) 0) (@List.cons.{0} @PySem.Value (@PySem.Value.str (@PySem.Str.ofString "/claim/cut.py") 447) (@List.nil.{0} @PySem.Value)))))))))))))))))))))) (@List.toArray.{0} (@Option.{0} @PySem.Value) (@List.nil.{0} (@Option.{0} @PySem.Value))))) ::
((nat_lit 221), (@PySem.Obj.mk (@PySem.Value.type "function") (@Option.none.{0} @Nat) (@PySem.Data.func (@PySem.FuncData.mk (@PySem.Str.ofString "_law_second") (@PySem.Str.ofString "_law_second") a221 (@PySem.FuncBody.stmts b221) s221 3 (@List.nil.{0} (@Prod.{0, 0} @PySem.Str @Nat)) @PySem.Value.none @PySem.Value.none @PySem.Value.none (@PySem.Value.str (@PySem.Str.ofString "law_jb0029_01") 427) (@Option.none.{0} @Nat) (@PySem.Value.ref 220) @PySem.Value.none 0)) (@List.toArray.{0} (@Option.{0} @PySem.Value) (@List.nil.{0} (@Option.{0} @PySem.Value))))) ::
((nat_lit 222), (@PySem.Obj.mk (@PySem.Value.type "tuple") (@Option.none.{0} @Nat) (@PySem.Data.seq (@List.toArray.{0} @PySem.Value (@List.nil.{0} @PySem.Value)) 0) (@List.toArray.{0} (@Option.{0} @PySem.Value) (@List.nil.{0} (@Option.{0} @PySem.Value))))) ::
((nat_lit 224), (@PySem.Obj.mk (@PySem.Value.type "tuple") (@Option.none.{0} @Nat) (@PySem.Data.seq (@List.toArray.{0} @PySem.Value (@List.cons.{0} @PySem.Value (@PySem.Value.str (@PySem.Str.ofString "numbers") 452) (@List.cons.{0} @PySem.Value (@PySem.Value.str (@PySem.Str.ofString "lines") 453) (@List.cons.{0} @PySem.Value (@PySem.Value.str (@PySem.Str.ofString "line") 454) (@List.nil.{0} @PySem.Value))))) 0) (@List.toArray.{0} (@Option.{0} @PySem.Value) (@List.nil.{0} (@Option.{0} @PySem.Value))))) ::
((nat_lit 225), (@PySem.Obj.mk (@PySem.Value.type "tuple") (@Option.none.{0} @Nat) (@PySem.Data.seq (@List.toArray.{0} @PySem.Value (@List.nil.{0} @PySem.Value)) 0) (@List.toArray.{0} (@Option.{0} @PySem.Value) (@List.nil.{0} (@Option.{0} @PySem.Value))))) ::
((nat_lit 227), (@PySem.Obj.mk (@PySem.Value.type "code") (@Option.none.{0} @Nat) (@PySem.Data.fields (@List.toArray.{0} @PySem.Value (@List.cons.{0} @PySem.Value (@PySem.Value.str (@PySem.Str.ofString "_law_lines") 449) (@List.cons.{0} @PySem.Value (@PySem.Value.str (@PySem.Str.ofString "_law_lines") 450) (@List.cons.{0} @PySem.Value (@PySem.Value.str (@PySem.Str.ofString "/claim/cut.py") 451) (@List.cons.{0} @PySem.Value (@PySem.Value.int (@OfNat.ofNat.{0} @Int (nat_lit 137) (@instOfNat (nat_lit 137))) 0) (@List.cons.{0} @PySem.Value (@PySem.Value.int (@OfNat.ofNat.{0} @Int (nat_lit 1) (@instOfNat (nat_lit 1))) 0) (@List.cons.{0} @PySem.Value (@PySem.Value.int (@OfNat.ofNat.{0} @Int (nat_lit 0) (@instOfNat (nat_lit 0))) 0) (@List.cons.{0} @PySem.Value (@PySem.Value.int (@OfNat.ofNat.{0} @Int (nat_lit 0) (@instOfNat (nat_lit 0))) 0) (@List.cons.{0} @PySem.Value (@PySem.Value.int (@OfNat.ofNat.{0} @Int (nat_lit 3) (@instOfNat (nat_lit 3))) 0) (@List.cons.{0} @PySem.Value (@PySem.Value.ref 222) (@List.cons.{0} @PySem.Value (@PySem.Value.bool @Bool.true) (@List.cons.{0} @PySem.Value (@PySem.Value.int (@OfNat.ofNat.{0} @Int (nat_lit 181) (@instOfNat (nat_lit 181))) 0) (@List.cons.{0} @PySem.Value (@PySem.Value.ref 223) (@List.cons.{0} @PySem.Value @PySem.Value.none (@List.cons.{0} @PySem.Value (@PySem.Value.ref 224) (@List.cons.{0} @PySem.Value (@PySem.Value.ref 225) (@List.cons.{0} @PySem.Value (@PySem.Value.ref 226) (@List.cons.{0} @PySem.Value (@PySem.Value.int (@OfNat.ofNat.{0} @Int (nat_lit 455) (@instOfNat (nat_lit 455))) 0) (@List.cons.{0} @PySem.Value (@PySem.Value.int (@OfNat.ofNat.{0} @Int (nat_lit 137) (@instOfNat (nat_lit 137))) 0) (@List.cons.{0} @PySem.Value (@PySem.Value.str (@PySem.Str.ofString "/claim/cut.py") 456) (@List.nil.{0} @PySem.Value)))))))))))))))))))))) (@List.toArray.{0} (@Option.{0} @PySem.Value) (@List.nil.{0} (@Option.{0} @PySem.Value))))) ::
((nat_lit 228), (@PySem.Obj.mk (@PySem.Value.type "function") (@Option.none.{0} @Nat) (@PySem.Data.func (@PySem.FuncData.mk (@PySem.Str.ofString "_law_lines") (@PySem.Str.ofString "_law_lines") a228 (@PySem.FuncBody.stmts b228) s228 3 (@List.nil.{0} (@Prod.{0, 0} @PySem.Str @Nat)) @PySem.Value.none @PySem.Value.none @PySem.Value.none (@PySem.Value.str (@PySem.Str.ofString "law_jb0029_01") 427) (@Option.none.{0} @Nat) (@PySem.Value.ref 227) @PySem.Value.none 0)) (@List.toArray.{0} (@Option.{0} @PySem.Value) (@List.nil.{0} (@Option.{0} @PySem.Value))))) ::
((nat_lit 229), (@PySem.Obj.mk (@PySem.Value.type "tuple") (@Option.none.{0} @Nat) (@PySem.Data.seq (@List.toArray.{0} @PySem.Value (@List.nil.{0} @PySem.Value)) 0) (@List.toArray.{0} (@Option.{0} @PySem.Value) (@List.nil.{0} (@Option.{0} @PySem.Value))))) ::
((nat_lit 232), (@PySem.Obj.mk (@PySem.Value.type "code") (@Option.none.{0} @Nat) (@PySem.Data.fields (@List.toArray.{0} @PySem.Value (@List.cons.{0} @PySem.Value (@PySem.Value.str (@PySem.Str.ofString "_law_points") 458) (@List.cons.{0} @PySem.Value (@PySem.Value.str (@PySem.Str.ofString "_law_points") 459) (@List.cons.{0} @PySem.Value (@PySem.Value.str (@PySem.Str.ofString "/claim/cut.py") 460) (@List.cons.{0} @PySem.Value (@PySem.Value.int (@OfNat.ofNat.{0} @Int (nat_lit 143) (@instOfNat (nat_lit 143))) 0) (@List.cons.{0} @PySem.Value (@PySem.Value.int (@OfNat.ofNat.{0} @Int (nat_lit 6) (@instOfNat (nat_lit 6))) 0) (@List.cons.{0} @PySem.Value (@PySem.Value.int (@OfNat.ofNat.{0} @Int (nat_lit 0) (@instOfNat (nat_lit 0))) 0) (@List.cons.{0} @PySem.Value (@PySem.Value.int (@OfNat.ofNat.{0} @Int (nat_lit 0) (@instOfNat (nat_lit 0))) 0) (@List.cons.{0} @PySem.Value (@PySem.Value.int (@OfNat.ofNat.{0} @Int (nat_lit 3) (@instOfNat (nat_lit 3))) 0) (@List.cons.{0} @PySem.Value (@PySem.Value.ref 229) (@List.cons.{0} @PySem.Value (@PySem.Value.bool @Bool.true) (@List.cons.{0} @PySem.Value (@PySem.Value.int (@OfNat.ofNat.{0} @Int (nat_lit 181) (@instOfNat (nat_lit 181))) 0) (@List.cons.{0} @PySem.Value (@PySem.Value.ref 230) (@List.cons.{0} @PySem.Value @PySem.Value.none (@List.cons.{0} @PySem.Value @PySem.Value.none (@List.cons.{0} @PySem.Value @PySem.Value.none (@List.cons.{0} @PySem.Value (@PySem.Value.ref 231) (@List.cons.{0} @PySem.Value (@PySem.Value.int (@OfNat.ofNat.{0} @Int (nat_lit 461) (@instOfNat (nat_lit 461))) 0) (@List.cons.{0} @PySem.Value (@PySem.Value.int (@OfNat.ofNat.{0} @Int (nat_lit 143) (@instOfNat (nat_lit 143))) 0) (@List.cons.{0} @PySem.Value (@PySem.Value.str (@PySem.Str.ofString "/claim/cut.py") 462) (@List.nil.{0} @PySem.Value)))))))))))))))))))))) (@List.toArray.{0} (@Option.{0} @PySem.Value) (@List.nil.{0} (@Option.{0} @PySem.Value))))) ::
((nat_lit 233), (@PySem.Obj.mk (@PySem.Value.type "function") (@Option.none.{0} @Nat) (@PySem.Data.func (@PySem.FuncData.mk (@PySem.Str.ofString "_law_points") (@PySem.Str.ofString "_law_points") a233 (@PySem.FuncBody.stmts b233) s233 3 (@List.nil.{0} (@Prod.{0, 0} @PySem.Str @Nat)) @PySem.Value.none @PySem.Value.none @PySem.Value.none (@PySem.Value.str (@PySem.Str.ofString "law_jb0029_01") 427) (@Option.none.{0} @Nat) (@PySem.Value.ref 232) @PySem.Value.none 0)) (@List.toArray.{0} (@Option.{0} @PySem.Value) (@List.nil.{0} (@Option.{0} @PySem.Value))))) ::
((nat_lit 234), (@PySem.Obj.mk (@PySem.Value.type "tuple") (@Option.none.{0} @Nat) (@PySem.Data.seq (@List.toArray.{0} @PySem.Value (@List.nil.{0} @PySem.Value)) 0) (@List.toArray.{0} (@Option.{0} @PySem.Value) (@List.nil.{0} (@Option.{0} @PySem.Value))))) ::
((nat_lit 236), (@PySem.Obj.mk (@PySem.Value.type "tuple") (@Option.none.{0} @Nat) (@PySem.Data.seq (@List.toArray.{0} @PySem.Value (@List.cons.{0} @PySem.Value (@PySem.Value.str (@PySem.Str.ofString "one") 467) (@List.nil.{0} @PySem.Value))) 0) (@List.toArray.{0} (@Option.{0} @PySem.Value) (@List.nil.{0} (@Option.{0} @PySem.Value))))) ::
((nat_lit 237), (@PySem.Obj.mk (@PySem.Value.type "tuple") (@Option.none.{0} @Nat) (@PySem.Data.seq (@List.toArray.{0} @PySem.Value (@List.nil.{0} @PySem.Value)) 0) (@List.toArray.{0} (@Option.{0} @PySem.Value) (@List.nil.{0} (@Option.{0} @PySem.Value))))) ::
((nat_lit 239), (@PySem.Obj.mk (@PySem.Value.type "code") (@Option.none.{0} @Nat) (@PySem.Data.fields (@List.toArray.{0} @PySem.Value (@List.cons.{0} @PySem.Value (@PySem.Value.str (@PySem.Str.ofString "_law_told") 464) (@List.cons.{0} @PySem.Value (@PySem.Value.str (@PySem.Str.ofString "_law_told") 465) (@List.cons.{0} @PySem.Value (@PySem.Value.str (@PySem.Str.ofString "/claim/cut.py") 466) (@List.cons.{0} @PySem.Value (@PySem.Value.int (@OfNat.ofNat.{0} @Int (nat_lit 145) (@instOfNat (nat_lit 145))) 0) (@List.cons.{0} @PySem.Value (@PySem.Value.int (@OfNat.ofNat.{0} @Int (nat_lit 1) (@instOfNat (nat_lit 1))) 0) (@List.cons.{0} @PySem.Value (@PySem.Value.int (@OfNat.ofNat.{0} @Int (nat_lit 0) (@instOfNat (nat_lit 0))) 0) (@List.cons.{0} @PySem.Value (@PySem.Value.int (@OfNat.ofNat.{0} @Int (nat_lit 0) (@instOfNat (nat_lit 0))) 0) (@List.cons.{0} @PySem.Value (@PySem.Value.int (@OfNat.ofNat.{0} @Int (nat_lit 3) (@instOfNat (nat_lit 3))) 0) (@List.cons.{0} @PySem.Value (@PySem.Value.ref 234) (@List.cons.{0} @PySem.Value (@PySem.Value.bool @Bool.true) (@List.cons.{0} @PySem.Value (@PySem.Value.int (@OfNat.ofNat.{0} @Int (nat_lit 181) (@instOfNat (nat_lit 181))) 0) (@List.cons.{0} @PySem.Value (@PySem.Value.ref 235) (@List.cons.{0} @PySem.Value @PySem.Value.none (@List.cons.{0} @PySem.Value (@PySem.Value.ref 236) (@List.cons.{0} @PySem.Value (@PySem.Value.ref 237) (@List.cons.{0} @PySem.Value (@PySem.Value.ref 238) (@List.cons.{0} @PySem.Value (@PySem.Value.int (@OfNat.ofNat.{0} @Int (nat_lit 468) (@instOfNat (nat_lit 468))) 0) (@List.cons.{0} @PySem.Value (@PySem.Value.int (@OfNat.ofNat.{0} @Int (nat_lit 145) (@instOfNat (nat_lit 145))) 0) (@List.cons.{0} @PySem.Value (@PySem.Value.str (@PySem.Str.ofString "/claim/cut.py") 469) (@List.nil.{0} @PySem.Value)))))))))))))))))))))) (@List.toArray.{0} (@Option.{0} @PySem.Value) (@List.nil.{0} (@Option.{0} @PySem.Value))))) ::
((nat_lit 240), (@PySem.Obj.mk (@PySem.Value.type "function") (@Option.none.{0} @Nat) (@PySem.Data.func (@PySem.FuncData.mk (@PySem.Str.ofString "_law_told") (@PySem.Str.ofString "_law_told") a240 (@PySem.FuncBody.stmts b240) s240 3 (@List.nil.{0} (@Prod.{0, 0} @PySem.Str @Nat)) @PySem.Value.none @PySem.Value.none @PySem.Value.none (@PySem.Value.str (@PySem.Str.ofString "law_jb0029_01") 427) (@Option.none.{0} @Nat) (@PySem.Value.ref 239) @PySem.Value.none 0)) (@List.toArray.{0} (@Option.{0} @PySem.Value) (@List.nil.{0} (@Option.{0} @PySem.Value))))) ::
((nat_lit 241), (@PySem.Obj.mk (@PySem.Value.type "tuple") (@Option.none.{0} @Nat) (@PySem.Data.seq (@List.toArray.{0} @PySem.Value (@List.nil.{0} @PySem.Value)) 0) (@List.toArray.{0} (@Option.{0} @PySem.Value) (@List.nil.{0} (@Option.{0} @PySem.Value))))) ::
((nat_lit 243), (@PySem.Obj.mk (@PySem.Value.type "tuple") (@Option.none.{0} @Nat) (@PySem.Data.seq (@List.toArray.{0} @PySem.Value (@List.cons.{0} @PySem.Value (@PySem.Value.str (@PySem.Str.ofString "x") 474) (@List.cons.{0} @PySem.Value (@PySem.Value.str (@PySem.Str.ofString "y") 475) (@List.cons.{0} @PySem.Value (@PySem.Value.str (@PySem.Str.ofString "w") 476) (@List.cons.{0} @PySem.Value (@PySem.Value.str (@PySem.Str.ofString "h") 477) (@List.nil.{0} @PySem.Value)))))) 0) (@List.toArray.{0} (@Option.{0} @PySem.Value) (@List.nil.{0} (@Option.{0} @PySem.Value))))) ::
((nat_lit 244), (@PySem.Obj.mk (@PySem.Value.type "tuple") (@Option.none.{0} @Nat) (@PySem.Data.seq (@List.toArray.{0} @PySem.Value (@List.nil.{0} @PySem.Value)) 0) (@List.toArray.{0} (@Option.{0} @PySem.Value) (@List.nil.{0} (@Option.{0} @PySem.Value))))) ::
((nat_lit 246), (@PySem.Obj.mk (@PySem.Value.type "code") (@Option.none.{0} @Nat) (@PySem.Data.fields (@List.toArray.{0} @PySem.Value (@List.cons.{0} @PySem.Value (@PySem.Value.str (@PySem.Str.ofString "_law_round") 471) (@List.cons.{0} @PySem.Value (@PySem.Value.str (@PySem.Str.ofString "_law_round") 472) (@List.cons.{0} @PySem.Value (@PySem.Value.str (@PySem.Str.ofString "/claim/cut.py") 473) (@List.cons.{0} @PySem.Value (@PySem.Value.int (@OfNat.ofNat.{0} @Int (nat_lit 147) (@instOfNat (nat_lit 147))) 0) (@List.cons.{0} @PySem.Value (@PySem.Value.int (@OfNat.ofNat.{0} @Int (nat_lit 4) (@instOfNat (nat_lit 4))) 0) (@List.cons.{0} @PySem.Value (@PySem.Value.int (@OfNat.ofNat.{0} @Int (nat_lit 0) (@instOfNat (nat_lit 0))) 0) (@List.cons.{0} @PySem.Value (@PySem.Value.int (@OfNat.ofNat.{0} @Int (nat_lit 0) (@instOfNat (nat_lit 0))) 0) (@List.cons.{0} @PySem.Value (@PySem.Value.int (@OfNat.ofNat.{0} @Int (nat_lit 3) (@instOfNat (nat_lit 3))) 0) (@List.cons.{0} @PySem.Value (@PySem.Value.ref 241) (@List.cons.{0} @PySem.Value (@PySem.Value.bool @Bool.true) (@List.cons.{0} @PySem.Value (@PySem.Value.int (@OfNat.ofNat.{0} @Int (nat_lit 181) (@instOfNat (nat_lit 181))) 0) (@List.cons.{0} @PySem.Value (@PySem.Value.ref 242) (@List.cons.{0} @PySem.Value @PySem.Value.none (@List.cons.{0} @PySem.Value (@PySem.Value.ref 243) (@List.cons.{0} @PySem.Value (@PySem.Value.ref 244) (@List.cons.{0} @PySem.Value (@PySem.Value.ref 245) (@List.cons.{0} @PySem.Value (@PySem.Value.int (@OfNat.ofNat.{0} @Int (nat_lit 478) (@instOfNat (nat_lit 478))) 0) (@List.cons.{0} @PySem.Value (@PySem.Value.int (@OfNat.ofNat.{0} @Int (nat_lit 147) (@instOfNat (nat_lit 147))) 0) (@List.cons.{0} @PySem.Value (@PySem.Value.str (@PySem.Str.ofString "/claim/cut.py") 479) (@List.nil.{0} @PySem.Value)))))))))))))))))))))) (@List.toArray.{0} (@Option.{0} @PySem.Value) (@List.nil.{0} (@Option.{0} @PySem.Value))))) ::
((nat_lit 247), (@PySem.Obj.mk (@PySem.Value.type "function") (@Option.none.{0} @Nat) (@PySem.Data.func (@PySem.FuncData.mk (@PySem.Str.ofString "_law_round") (@PySem.Str.ofString "_law_round") a247 (@PySem.FuncBody.stmts b247) s247 3 (@List.nil.{0} (@Prod.{0, 0} @PySem.Str @Nat)) @PySem.Value.none @PySem.Value.none @PySem.Value.none (@PySem.Value.str (@PySem.Str.ofString "law_jb0029_01") 427) (@Option.none.{0} @Nat) (@PySem.Value.ref 246) @PySem.Value.none 0)) (@List.toArray.{0} (@Option.{0} @PySem.Value) (@List.nil.{0} (@Option.{0} @PySem.Value))))) ::
((nat_lit 248), (@PySem.Obj.mk (@PySem.Value.type "tuple") (@Option.none.{0} @Nat) (@PySem.Data.seq (@List.toArray.{0} @PySem.Value (@List.nil.{0} @PySem.Value)) 0) (@List.toArray.{0} (@Option.{0} @PySem.Value) (@List.nil.{0} (@Option.{0} @PySem.Value))))) ::
((nat_lit 251), (@PySem.Obj.mk (@PySem.Value.type "code") (@Option.none.{0} @Nat) (@PySem.Data.fields (@List.toArray.{0} @PySem.Value (@List.cons.{0} @PySem.Value (@PySem.Value.str (@PySem.Str.ofString "law") 481) (@List.cons.{0} @PySem.Value (@PySem.Value.str (@PySem.Str.ofString "law") 482) (@List.cons.{0} @PySem.Value (@PySem.Value.str (@PySem.Str.ofString "/claim/cut.py") 483) (@List.cons.{0} @PySem.Value (@PySem.Value.int (@OfNat.ofNat.{0} @Int (nat_lit 149) (@instOfNat (nat_lit 149))) 0) (@List.cons.{0} @PySem.Value (@PySem.Value.int (@OfNat.ofNat.{0} @Int (nat_lit 1) (@instOfNat (nat_lit 1))) 0) (@List.cons.{0} @PySem.Value (@PySem.Value.int (@OfNat.ofNat.{0} @Int (nat_lit 0) (@instOfNat (nat_lit 0))) 0) (@List.cons.{0} @PySem.Value (@PySem.Value.int (@OfNat.ofNat.{0} @Int (nat_lit 0) (@instOfNat (nat_lit 0))) 0) (@List.cons.{0} @PySem.Value (@PySem.Value.int (@OfNat.ofNat.{0} @Int (nat_lit 3) (@instOfNat (nat_lit 3))) 0) (@List.cons.{0} @PySem.Value (@PySem.Value.ref 248) (@List.cons.{0} @PySem.Value (@PySem.Value.bool @Bool.true) (@List.cons.{0} @PySem.Value (@PySem.Value.int (@OfNat.ofNat.{0} @Int (nat_lit 181) (@instOfNat (nat_lit 181))) 0) (@List.cons.{0} @PySem.Value (@PySem.Value.ref 249) (@List.cons.{0} @PySem.Value @PySem.Value.none (@List.cons.{0} @PySem.Value @PySem.Value.none (@List.cons.{0} @PySem.Value @PySem.Value.none (@List.cons.{0} @PySem.Value (@PySem.Value.ref 250) (@List.cons.{0} @PySem.Value (@PySem.Value.int (@OfNat.ofNat.{0} @Int (nat_lit 484) (@instOfNat (nat_lit 484))) 0) (@List.cons.{0} @PySem.Value (@PySem.Value.int (@OfNat.ofNat.{0} @Int (nat_lit 149) (@instOfNat (nat_lit 149))) 0) (@List.cons.{0} @PySem.Value (@PySem.Value.str (@PySem.Str.ofString "/claim/cut.py") 485) (@List.nil.{0} @PySem.Value)))))))))))))))))))))) (@List.toArray.{0} (@Option.{0} @PySem.Value) (@List.nil.{0} (@Option.{0} @PySem.Value))))) ::
((nat_lit 252), (@PySem.Obj.mk (@PySem.Value.type "function") (@Option.none.{0} @Nat) (@PySem.Data.func (@PySem.FuncData.mk (@PySem.Str.ofString "law") (@PySem.Str.ofString "law") a252 (@PySem.FuncBody.stmts b252) s252 3 (@List.nil.{0} (@Prod.{0, 0} @PySem.Str @Nat)) @PySem.Value.none @PySem.Value.none @PySem.Value.none (@PySem.Value.str (@PySem.Str.ofString "law_jb0029_01") 427) (@Option.none.{0} @Nat) (@PySem.Value.ref 251) @PySem.Value.none 0)) (@List.toArray.{0} (@Option.{0} @PySem.Value) (@List.nil.{0} (@Option.{0} @PySem.Value))))) :: []
  : List (Nat × Obj))))
    ⟨_, _, _, _, _, _, _⟩ [_] ⟨_, _, _, _, _⟩ ⟨rfl, rfl, rfl⟩ ⟨_, _, _, _, _, _, _⟩ [_, _] ⟨_, _, _, _, _⟩ ⟨rfl, rfl, rfl⟩ ⟨_, _, _, _, _, _, _⟩ [_] ⟨_, _, _, _, _⟩ ⟨rfl, rfl, rfl⟩ ⟨_, _, _, _, _, _, _⟩ [_] ⟨_, _, _, _, _⟩ ⟨rfl, rfl, rfl⟩ ⟨_, _, _, _, _, _, _⟩ [_, _, _, _, _, _] ⟨_, _, _, _, _⟩ ⟨rfl, rfl, rfl⟩ ⟨_, _, _, _, _, _, _⟩ [_] ⟨_, _, _, _, _⟩ ⟨rfl, rfl, rfl⟩ ⟨_, _, _, _, _, _, _⟩ [_] ⟨_, _, _, _, _⟩ ⟨rfl, rfl, rfl⟩ ⟨_, _, _, _, _, _, _⟩ [_] ⟨_, _, _, _, _⟩ ⟨rfl, rfl, rfl⟩ ⟨_, _, _, _, _, _, _⟩ [_] ⟨_, _, _, _, _⟩ ⟨rfl, rfl, rfl⟩ ⟨_, _, _, _, _, _, _⟩ [_] ⟨_, _, _, _, _⟩ ⟨rfl, rfl, rfl⟩ ⟨_, _, _, _, _, _, _⟩ [_] ⟨_, _, _, _, _⟩ ⟨rfl, rfl, rfl⟩ ⟨_, _, _, _, _, _, _⟩ [_] ⟨_, _, _, _, _⟩ ⟨rfl, rfl, rfl⟩ ⟨_, _, _, _, _, _, _⟩ [_] ⟨_, _, _, _, _⟩ ⟨rfl, rfl, rfl⟩ ⟨_, _, _, _, _, _, _⟩ [_] ⟨_, _, _, _, _⟩ ⟨rfl, rfl, rfl⟩ ⟨_, _, _, _, _, _, _⟩ [_, _] ⟨_, _, _, _, _⟩ ⟨rfl, rfl, rfl⟩ ⟨_, _, _, _, _, _, _⟩ [_, _, _, _] ⟨_, _, _, _, _⟩ ⟨rfl, rfl, rfl⟩ ⟨_, _, _, _, _, _, _⟩ [_] ⟨_, _, _, _, _⟩ ⟨rfl, rfl, rfl⟩ ⟨_, _, _, _, _, _, _⟩ [_] ⟨_, _, _, _, _⟩ ⟨rfl, rfl, rfl⟩ ⟨_, _, _, _, _, _, _⟩ [_] ⟨_, _, _, _, _⟩ ⟨rfl, rfl, rfl⟩ ⟨_, _, _, _, _, _, _⟩ [_, _] ⟨_, _, _, _, _⟩ ⟨rfl, rfl, rfl⟩ ⟨_, _, _, _, _, _, _⟩ [_, _, _, _, _, _] ⟨_, _, _, _, _⟩ ⟨rfl, rfl, rfl⟩ ⟨_, _, _, _, _, _, _⟩ [_, _, _, _, _, _] ⟨_, _, _, _, _⟩ ⟨rfl, rfl, rfl⟩ ⟨_, _, _, _, _, _, _⟩ [_] ⟨_, _, _, _, _⟩ ⟨rfl, rfl, rfl⟩ ⟨_, _, _, _, _, _, _⟩ [_, _, _, _, _, _] ⟨_, _, _, _, _⟩ ⟨rfl, rfl, rfl⟩ ⟨_, _, _, _, _, _, _⟩ [_, _, _] ⟨_, _, _, _, _⟩ ⟨rfl, rfl, rfl⟩ ⟨_, _, _, _, _, _, _⟩ [_] ⟨_, _, _, _, _⟩ ⟨rfl, rfl, rfl⟩ ⟨_, _, _, _, _, _, _⟩ [_] ⟨_, _, _, _, _⟩ ⟨rfl, rfl, rfl⟩ ⟨_, _, _, _, _, _, _⟩ [_] ⟨_, _, _, _, _⟩ ⟨rfl, rfl, rfl⟩ ⟨_, _, _, _, _, _, _⟩ [_, _, _, _, _, _, _, _, _, _, _, _, _, _, _, _, _, _, _, _, _, _, _, _, _, _] ⟨_, _, _, _, _⟩ ⟨rfl, rfl, rfl⟩

noncomputable def vwB : List Stmt := [tst 0, tst 2, tst 3, tst 5, tst 6, tst 7, tst 8, tst 9, tst 10, tst 11]
noncomputable def Vw : Program := (fun (b : List Stmt) (_ : vwB = b) => ({ PySem.Challenge.rw_jb0029_01.row.prog with main := { PySem.Challenge.rw_jb0029_01.row.prog.main with body := b } } : Program)) [.FunctionDef _ _ _ _ _ _ _ _ _ _, .ClassDef _ _ _ _ _ _ _ _ _ _ _, .ClassDef _ _ _ _ _ _ _ _ _ _ _, .FunctionDef _ _ _ _ _ _ _ _ _ _, .FunctionDef _ _ _ _ _ _ _ _ _ _, .FunctionDef _ _ _ _ _ _ _ _ _ _, .FunctionDef _ _ _ _ _ _ _ _ _ _, .FunctionDef _ _ _ _ _ _ _ _ _ _, .FunctionDef _ _ _ _ _ _ _ _ _ _, .FunctionDef _ _ _ _ _ _ _ _ _ _] rfl
noncomputable def K0a : List Addr := [2, 3, 15, 17, 18, 20, 21, 22, 29, 31, 32, 34, 35, 36, 38, 39, 41, 42, 43, 45, 46, 48, 49, 50, 51, 52, 53, 54, 57, 64, 65, 67, 68, 70, 71, 72, 74, 75, 77, 78, 79, 80, 82, 83, 85, 86, 87, 88, 90, 91, 93, 94, 95, 96, 98, 99, 101, 102, 103, 104, 106, 107, 109, 110, 111, 112, 114, 115, 117, 118, 119, 120, 122, 123, 125, 126, 127, 128, 130, 131, 133, 134, 135, 136, 138, 139, 141, 142, 143, 145, 146, 148, 149, 150, 152, 153, 155, 156, 157, 159, 160, 162, 163, 164, 166, 167, 169, 170, 171, 173, 174, 176, 177, 178, 179, 181, 182, 184, 185, 186, 187, 189, 190, 192, 193, 194, 196, 197, 199, 200, 201, 202, 203, 204, 205, 208, 210, 211, 213, 214, 215, 217, 218, 220, 221, 222, 224, 225, 227, 228, 229, 232, 233, 234, 236, 237, 239, 240, 241, 243, 244, 246, 247, 248, 251, 252]
theorem K0e : ∀ P, K0a = (K0 P).map (·.1) := fun _ => by kernel_rfl
/-! the text's top, run over a tree of objects, by the library's quick words -/
/-- a run of at most n steps: ok lets a step by, go takes it -/
noncomputable def runT (ok : Thread → Bool) (go : SharedT → Thread → Option (SharedT × Thread)) : Nat → SharedT → Thread → Option SharedT
  | 0 => fun _ _ => none
  | n + 1 => fun s t => cond (through t) (some s) (cond (ok t) ((go s t).bind fun r => runT ok go n r.1 r.2) none)
theorem runT_top {tb : String → Option Builtin} {p : Program} {w : World} {n₀ : Nat} {ann : Option Value} {s' : SharedT} (n : Nat) : ∀ (s : SharedT) (t : Thread), runT (stepOk n₀ ann) (stepT (denote tb) p w) n s t = some s' → topRun tb p w n₀ ann n s.abs t = some s'.abs := by
  induction n with
  | zero => exact fun _ _ h => nomatch h
  | succ n ih =>
    intro s t h
    simp only [runT] at h
    simp only [topRun]
    cases h1 : through t <;> simp only [h1, cond_true, cond_false] at h ⊢
    · cases h2 : stepOk n₀ ann t <;> simp only [h2, cond_true, cond_false] at h ⊢
      · cases h
      · obtain ⟨⟨s₂, t₂⟩, h3, h4⟩ := Option.bind_eq_some_iff.mp h
        simp only [stepT_spec h3]
        exact ih s₂ t₂ h4
    · rw [Option.some.inj h]
noncomputable def T0 (P : Params) : BT := ((((((((((BT.nil.ins 0 (boot_o_0 P)).ins 1 (boot_o_1 P)).ins 2 (boot_o_2 P)).ins 3 (boot_o_3 P)).ins 4 (boot_o_4 P)).ins 5 (boot_o_5 P)).ins 6 (boot_o_6 P)).ins 7 (boot_o_7 P)).ins 8 (boot_o_8 P)).ins 9 (boot_o_9 P)).ins 10 (boot_o_10 P)
theorem T0_abs (P : Params) : absHeap (T0 P) 11 {} = boot_heap P := by kernel_rfl
/-- what is looked at behind the top -/
noncomputable def topChk (ms : List Str) (p : Program) (h : Heap) (s : Shared) : Bool := staticsOk ms h s.heap && namesBound p s.heap && gensDone s && laidKept h s.heap
noncomputable def topQ (ms : List Str) (p : Program) (w : World) (N : Nat) (s : Shared) : Option Shared :=
  cond (s.heap.isNs mainGlobals && s.gens.size == 0) ((topRun treeTable p w s.heap.objs.size (s.heap.nsMap mainGlobals "__annotations__") N s (topStub p)).bind fun r => cond (topChk ms p s.heap r) (some r) none) none
theorem leftQ {p q : Program} {loose ms : List Str} {Xt : Shared → Bool} {α : Type} {Yf : Shared → α} {Ya : World → α} {N : Nat}
    (hl : LeftO p q loose Xt Yf Ya N = ∀ w, ((fencedOpening treeTable p w N).bind (topQ ms p w N)).map (fun s => (openSeen q loose ms Xt true s, Yf s)) = some (openGood q loose, Ya w))
    (e : opening p = plainProg p.main.scope.names) (hN : Nat.ble 600 N = true) (f : ∀ s, fenceModules? p s = some s)
    (run : ∀ (w : World) (os : OsState), (runT (Fast.tw6613529449190102663 11 ((boot_heap w.params).nsMap mainGlobals "__annotations__")) (Fast.tw10156331382660048174 (Fast.tw11892475500146522536 Fast.tw14364793385576792824) p w) N ⟨T0 w.params, 11, {}, Array.mk [], boot_drawn, boot_toks, os⟩ (topStub p)).map (fun s => (topChk ms p (boot_heap w.params) s.abs, Fast.tw4187177175401517315 q loose ms Xt true s.abs, Yf s.abs)) = some (true, openGood q loose, Ya w)) : LeftO p q loose Xt Yf Ya N := by
  rw [hl]
  intro w
  obtain ⟨⟨h, gs, d, k, os⟩, e1, e2⟩ := Option.map_eq_some_iff.mp (boot_open e hN f w)
  obtain ⟨rfl, rfl, rfl, rfl⟩ : h = boot_heap w.params ∧ gs = Array.mk [] ∧ d = boot_drawn ∧ k = boot_toks := by simpa using e2
  obtain ⟨s', r1, r2⟩ := Option.map_eq_some_iff.mp (run w os)
  obtain ⟨l1, l2, l3⟩ : _ ∧ _ ∧ _ := by simpa only [Prod.mk.injEq] using r2
  rw [← Fast.te6613529449190102663, ← Fast.te10156331382660048174, ← Fast.te11892475500146522536, ← Fast.te14364793385576792824] at r1
  have r := runT_top N _ _ r1
  have ab : (SharedT.mk (T0 w.params) 11 {} (Array.mk []) boot_drawn boot_toks os).abs = ⟨boot_heap w.params, Array.mk [], boot_drawn, boot_toks, os⟩ := by
    unfold SharedT.abs
    rw [T0_abs]
  rw [ab] at r
  have t : topQ ms p w N ⟨boot_heap w.params, Array.mk [], boot_drawn, boot_toks, os⟩ = some s'.abs := by
    unfold topQ
    have z1 : ((boot_heap w.params).isNs mainGlobals && (Array.mk ([] : List GenState)).size == 0) = true := by kernel_rfl
    have z2 : (boot_heap w.params).objs.size = 11 := by kernel_rfl
    rw [z1, z2, r]
    show cond (topChk ms p (boot_heap w.params) s'.abs) (some s'.abs) none = _
    rw [l1]
    rfl
  rw [e1]
  show Option.map _ (topQ ms p w N _) = _
  rw [t]
  show some (openSeen q loose ms Xt true s'.abs, Yf s'.abs) = _
  rw [Fast.te4187177175401517315, l2, l3]
theorem left0 : LeftO PySem.Challenge.rw_jb0029_01.row.prog Vw [Str.ofString "Rectangle"] (fun s => xlAt Vw [] s && recOk (RowW.records PySem.Challenge.rw_jb0029_01.row.toRowW) s) (Hook.obs (kHook K0 K0a K0e)) (Hook.val (kHook K0 K0a K0e)) 3736 :=
  leftQ rfl rfl rfl (fun _ => rfl) fun w os => by kernel_rfl
/-- the looks at the text, one by one -/
theorem ws1 : PySem.Challenge.rw_jb0029_01.row.wellSaid = true := by
  unfold OpenRow.wellSaid OpenRow.partSaid looksOpen
  rw [Fast.te17119622794617984870, Fast.te8326940854005059898, Fast.named_eq]
  repeat' (with_reducible refine look_both ?_ ?_)
  all_goals decide +kernel
theorem ws : PySem.Challenge.rw_jb0029_01.wellSaid = true := by
  unfold OpenLaw.wellSaid
  rw [Fast.te17119622794617984870, Fast.te8326940854005059898, Fast.te9558739934217749035, Fast.te8179353310426384613, Fast.named_eq]
  repeat' (with_reducible refine look_both ?_ ?_)
  all_goals first | with_reducible exact ws1 | decide +kernel
end Mine
end

namespace Mine
open PySem.Calls

-- P1
section
/-- all that stood stands -/
def Kp (h h' : Heap) : Prop := ∀ b o, h.get? b = some o → h'.get? b = some o
theorem Kp.refl (h : Heap) : Kp h h := fun _ _ e => e
theorem Kp.trans {a b c : Heap} (x : Kp a b) (y : Kp b c) : Kp a c := fun p o e => y p o (x p o e)

/-- the end of a def that stores nothing -/
def PEnd (R : Result → Shared → Prop) (v : Value) (s' : Shared) : Prop := R (.ok (.ret v)) s'

section
variable {prog : Program} {w : World} {A₀ A : Around} {s : Shared} {base h₀ : Heap} {outer : List Env} {L : Addr} {m : Str → Option Value} {env : Env} {K : Frag}
  {p : Program} {loose : List Str} {mean : ExcName → Option Value} {mg mb : Str → Option Value}
  {R : Result → Shared → Prop} {name qual : Str} {params : Arguments} {body : List Stmt} {scope : Scope} {dV kV doc pm cdv ct oc : Value} {an od : Option Addr} {osl : Array (Option Value)} {f : Addr} {args : Args} {binds : List (Str × Value)}

theorem code_pure (B : Below A₀ base outer h₀) (F : Fr h₀ L s.heap m) (X₀ : K.In h₀) (T : Top p loose mean mg mb h₀) (hA : A.frames = some (env :: outer)) (hf : env.frame = some L) (hke : env.scope.kind = .function)
    (ho : K.lookup f = some ⟨oc, od, .func (fnOf name qual params body scope dV kV doc pm an cdv ct), osl⟩) (hcd : codeIn K cdv qual = true) (hroom : A.depth < recursionLimit)
    (hbind : BindsTo s (fnOf name qual params body scope dV kV doc pm an cdv ct) args binds) (hloc : ∀ y ∈ binds, scope.names.lookup y.1 = some .local)
    (h : ∀ L' h₁, Fr s.heap L' h₁ (fun y => binds.reverse.lookup y) → News s.heap L' h₁ [] → Below A base (env :: outer) s.heap → K.In s.heap → Top p loose mean mg mb s.heap →
      wpAny (model prog w) (A.deeper (envOf qual scope L' f cdv)) (execs body (envOf qual scope L' f cdv))
        (fun fl s' => PEnd R (match fl with | .ret v => v | _ => .none) s')
        (fun e s' => wpAny (model prog w) (A.deeper (envOf qual scope L' f cdv)) (leaving (envOf qual scope L' f cdv) e) (fun _ s'' => R (.error e) s'') (fun e' s'' => R (.error e') s'') s')
        { s with heap := h₁, toks := s.toks + binds.length })
    (hco : scope.isCoroutine = false) (hgen : scope.isGenerator = false) (hk : scope.kind = .function)
    (hcell : ∀ x ∈ scope.names, x.2 ≠ .cell) : codeAny (model prog w) A (.call (.ref f) args) R s := by
  have X := X₀.keeps F.keep
  obtain ⟨_, BG, _, _⟩ := groundX (R := R) B F (News.nil (h₀ := h₀)) hA hf hke
  refine codeAny_call_def (fd := fnOf name qual params body scope dV kV doc pm an cdv ct) (body := body) (binds := binds) hroom (X _ _ ho) rfl (T.nolimit.keeps F.keep) (codeRec_of X hcd) rfl hbind hcell hloc (fun h₁ hns hk₁ => ?_) hco hgen hk
  exact h s.heap.objs.size h₁ ⟨hns, hk₁, Nat.le_refl _⟩ News.nil BG X (T.keeps F.keep)
end

section
variable {prog : Program} {w : World} {A₀ A : Around} {s : Shared} {base h₀ : Heap} {outer : List Env} {L : Addr} {m : Str → Option Value} {env : Env} {K : Frag}
  {p : Program} {loose : List Str} {mean : ExcName → Option Value} {mg mb : Str → Option Value}
  {R : Result → Shared → Prop} {name qual : Str} {params : Arguments} {body : List Stmt} {scope : Scope} {dV kV doc pm cdv ct oc : Value} {an od : Option Addr} {osl : Array (Option Value)} {f : Addr} {args : Args} {binds : List (Str × Value)}

theorem code_pureC (B : Below A₀ base outer h₀) (F : Fr h₀ L s.heap m) (X₀ : K.In h₀) (T : Top p loose mean mg mb h₀) (hA : A.frames = some (env :: outer)) (hf : env.frame = some L) (hke : env.scope.kind = .function)
    (ho : K.lookup f = some ⟨oc, od, .func (fnOf name qual params body scope dV kV doc pm an cdv ct), osl⟩) (hcd : codeIn K cdv qual = true) (hroom : A.depth < recursionLimit)
    (hbind : BindsTo s (fnOf name qual params body scope dV kV doc pm an cdv ct) args binds) (hkind : (binds.all fun y => scope.names.lookup y.1 == some .local || scope.names.lookup y.1 == some .cell) = true)
    (hnd : ((cellsFrom 0 scope.names []).map (·.1)).Nodup)
    (h : ∀ L' h₁ tk cells, Fr s.heap L' h₁ (bindL (envOfC qual scope L' f cdv).kindOf binds fun _ => none) → News s.heap L' h₁ cells →
      CellsAre (bindC (envOfC qual scope L' f cdv).kindOf binds fun _ => none) (cellsFrom (L' + 1) scope.names []) cells → Below A base (env :: outer) s.heap → K.In s.heap → Top p loose mean mg mb s.heap →
      wpAny (model prog w) (A.deeper (envOfC qual scope L' f cdv)) (execs body (envOfC qual scope L' f cdv))
        (fun fl s' => PEnd R (match fl with | .ret v => v | _ => .none) s')
        (fun e s' => wpAny (model prog w) (A.deeper (envOfC qual scope L' f cdv)) (leaving (envOfC qual scope L' f cdv) e) (fun _ s'' => R (.error e) s'') (fun e' s'' => R (.error e') s'') s')
        { s with heap := h₁, toks := tk })
    (hco : scope.isCoroutine = false) (hgen : scope.isGenerator = false) (hk : scope.kind = .function) : codeAny (model prog w) A (.call (.ref f) args) R s := by
  have X := X₀.keeps F.keep
  obtain ⟨_, BG, _, _⟩ := groundX (R := R) B F (News.nil (h₀ := h₀)) hA hf hke
  refine codeAny_call_function (fd := fnOf name qual params body scope dV kV doc pm an cdv ct) hroom (X _ _ ho) rfl hco hgen rfl (codeRec_of X hcd) (hbind _ _ _ _ ?_)
  refine wpAny_newFunctionEnv_cells hk (kindsX hkind _) fun env' he s' x => ?_
  subst he
  refine ⟨(T.nolimit.keeps F.keep).keeps x.toInCall.keep, codeAny_func ?_⟩
  obtain ⟨h₁, tk, rfl, _⟩ := x.done
  have hk₁ := x.toInCall.keep
  obtain ⟨cells, NC, Y⟩ := Cl.news (h₀ := s.heap) (Nat.le_refl _) fun n c hm => ⟨x.cell n c (lookup_of_mem_nodup (cellsFrom_names scope.names 0 (s.heap.objs.size + 1) [] [] rfl ▸ hnd) hm), x.above n c hm⟩
  exact h s.heap.objs.size h₁ tk cells ⟨x.toInCall.ns, hk₁, Nat.le_refl _⟩ NC Y BG X (T.keeps F.keep)
end

/-- what a def does that stores nothing -/
def Pur (w : World) (dp un : Nat) (f : Addr) (args : Args) (s : Shared) (P : Value → Heap → Prop) : Prop :=
  ∀ (mean : ExcName → Option Value) (mg mb : Str → Option Value) (gd : Option (List Code)) (cn : Str) (cs : Scope) (a : Addr) (ccd : Value) (cl : List (Str × Addr)) (outer : List Env) (A₀ : Around) (base h₀ : Heap) (L : Addr) (m : Str → Option Value)
    (R : Result → Shared → Prop),
    Below A₀ base outer h₀ → Fr h₀ L s.heap m → (Mine.K0 w.params).In h₀ → Top Mine.Vw (looseW Mine.Vw [Str.ofString "Rectangle"]) mean mg mb h₀ → cs.kind = .function →
    (∀ v h' tk', Kp s.heap h' → P v h' → R (.ok (.ret v)) { s with heap := h', toks := tk' }) →
    codeAny (model PySem.Challenge.rw_jb0029_01.row.prog w) (ktrTop dp un gd cn cs L a ccd cl outer) (.call (.ref f) args) R s

theorem pend {s : Shared} {h : Heap} {L' : Addr} {m' : Str → Option Value} {R : Result → Shared → Prop} {P : Value → Heap → Prop} {v : Value} {tk : Nat}
    (hret : ∀ v h' tk', Kp s.heap h' → P v h' → R (.ok (.ret v)) { s with heap := h', toks := tk' }) (F : Fr s.heap L' h m') (hp : P v h) : PEnd R v { s with heap := h, toks := tk } := hret _ _ _ F.keep hp

theorem InstAt.of_base {h₀ h : Heap} {L x C dx : Addr} {m : Str → Option Value} {od : Obj} {sl : Array (Option Value)} (F : Fr h₀ L h m)
    (h1 : h₀.get? x = some ⟨.ref C, some dx, .plain, sl⟩) (h2 : h₀.get? dx = some od) :
    InstAt h x ⟨.ref C, some dx, .plain, sl⟩ C (some od) := ⟨F.keep _ _ h1, rfl, rfl, F.keep _ _ h2⟩

theorem mem_of {α : Type} {x : α} {l : List α} (h : x ∈ l) : List.Mem x l := h
theorem room_k {u k : Nat} (h : u ≤ 1000) (hk : k ≤ 100) : u + k < cLine := Nat.lt_of_le_of_lt (Nat.add_le_add h hk) (by decide)

theorem ne_same {a b : Bool} (h : a = b) : (a != b) = false := by rw [h]; simp

/-- a rectangle's own dict -/
noncomputable abbrev rd (P : Params) (ta tb tc td te : Tok) (x y w h : Int) (tx ty tw th : Tok) : Obj :=
  dictOf [⟨PyData.keyHash P (Str.ofString "width"), .str (Str.ofString "width") ta, .int w tw⟩, ⟨PyData.keyHash P (Str.ofString "height"), .str (Str.ofString "height") tb, .int h th⟩,
    ⟨PyData.keyHash P (Str.ofString "x"), .str (Str.ofString "x") tc, .int x tx⟩, ⟨PyData.keyHash P (Str.ofString "y"), .str (Str.ofString "y") td, .int y ty⟩,
    ⟨PyData.keyHash P (Str.ofString "rid"), .str (Str.ofString "rid") te, .none⟩] 5

theorem fill (w : World) : (Mine.K0 w.params) = (Mine.K0 w.params) ∧ PySem.Challenge.rw_jb0029_01.prog = PySem.Challenge.rw_jb0029_01.prog := by
  k_fill
  exact ⟨rfl, rfl⟩
end

-- N1
section
/-- kept but for the written -/
def KpB (ws : List Addr) (h h' : Heap) : Prop := ∀ b o, b ∉ ws → h.get? b = some o → h'.get? b = some o
theorem KpB.refl (ws : List Addr) (h : Heap) : KpB ws h h := fun _ _ _ e => e
theorem KpB.trans {ws : List Addr} {a b c : Heap} (x : KpB ws a b) (y : KpB ws b c) : KpB ws a c := fun p o hp e => y p o hp (x p o hp e)
theorem KpB.of {ws : List Addr} {a b : Heap} (x : ∀ p o, a.get? p = some o → b.get? p = some o) : KpB ws a b := fun p o _ e => x p o e
theorem KpB.but {ws : List Addr} {a b : Heap} {c : Addr} (x : Heap.SameBut c a b) (hc : c ∈ ws) : KpB ws a b := fun p o hp e => x.extBut p o (fun q => hp (q ▸ hc)) e
theorem KpB.ext {ws : List Addr} {a b : Heap} {c : Addr} (x : Heap.ExtBut c a b) (hc : c ∈ ws) : KpB ws a b := fun p o hp e => x p o (fun q => hp (q ▸ hc)) e

/-- a pair of ints, made since `base`, none of the written -/
def PtN (base : Heap) (ws : List Addr) (h : Heap) (y : Value) (p : Int × Int) : Prop := ∃ T ti tj, y = .ref T ∧ T ∉ ws ∧ base.get? T = none ∧ h.IsTuple T #[.int p.1 ti, .int p.2 tj]
theorem PtN.keep {base : Heap} {ws : List Addr} {h h' : Heap} {y : Value} {p : Int × Int} (x : PtN base ws h y p) (k : KpB ws h h') : PtN base ws h' y p := by
  obtain ⟨T, ti, tj, e, hT, hb, o, ho, r⟩ := x
  exact ⟨T, ti, tj, e, hT, hb, o, k T o hT ho, r⟩
theorem isTuple_keep {h h' : Heap} {T : Addr} {xs : Array Value} (x : h.IsTuple T xs) (k : ∀ o, h.get? T = some o → h'.get? T = some o) : h'.IsTuple T xs := by
  obtain ⟨o, ho, r⟩ := x
  exact ⟨o, k o ho, r⟩
theorem none_of {h h' : Heap} {ws : List Addr} {T : Addr} (k : KpB ws h h') (hT : T ∉ ws) (e : h'.get? T = none) : h.get? T = none := by
  cases q : h.get? T with
  | none => rfl
  | some o => rw [k T o hT q] at e; cases e

/-- how a pair's expression ends in a comprehension's frame C -/
structure ElEnd (C : Addr) (u : Str → Option Value) (i k : Int) (s₂ : Shared) (v : Value) (s₃ : Shared) : Prop where
  out : ∃ T ti tj h tk, v = .ref T ∧ s₃ = { s₂ with heap := h, toks := tk } ∧ s₂.heap.get? T = none ∧ h.IsTuple T #[.int i ti, .int k tj] ∧ KpB [C] s₂.heap h ∧ h.Ns C u
/-- how a range's expression ends there -/
structure RgEnd (C : Addr) (u : Str → Option Value) (b b2 : Int) (s₂ : Shared) (v : Value) (s₃ : Shared) : Prop where
  out : ∃ r t0 u0 v0 h tk, v = .ref r ∧ s₃ = { s₂ with heap := h, toks := tk } ∧ IsRange h r b b2 1 t0 u0 v0 ∧ KpB [C] s₂.heap h ∧ h.Ns C u
theorem KpB.more {C : Addr} {ws : List Addr} {a b : Heap} (x : KpB [C] a b) (hC : C ∈ ws) : KpB ws a b := fun p o hp e => x p o (fun q => hp ((List.mem_singleton.mp q) ▸ hC)) e

/-- a whole ledger of what stands above the base -/
theorem whole {g h : Heap} {C : Addr} {u : Str → Option Value} (F : Fr g C h u) : ∃ news, News g C h news ∧ (∀ b o, b ≠ C → g.get? b = none → h.get? b = some o → (b, o) ∈ news) := by
  refine ⟨(List.range h.objs.size).filterMap fun b => if b = C ∨ (g.get? b).isSome = true then none else (h.get? b).map fun o => (b, o), fun p hp => ?_, fun b o hbC q e => ?_⟩
  · obtain ⟨b, _, hb⟩ := List.mem_filterMap.mp hp
    split at hb
    · cases hb
    · rename_i hn
      obtain ⟨o, ho, rfl⟩ := Option.map_eq_some_iff.mp hb
      simp only [not_or] at hn
      refine ⟨ho, hn.1, ?_⟩
      cases q : g.get? b with
      | none => rfl
      | some x => rw [q] at hn; exact absurd rfl hn.2
  · refine List.mem_filterMap.mpr ⟨b, List.mem_range.mpr (Heap.lt_size e), ?_⟩
    rw [if_neg (by simp [hbC, q]), e]
    rfl
theorem whole_keeps {g h h' : Heap} {C : Addr} {u u' : Str → Option Value} {news ex : List (Addr × Obj)} (F : Fr g C h u) (W : ∀ b o, b ≠ C → g.get? b = none → h.get? b = some o → (b, o) ∈ news) (F' : Fr g C h' u') (N' : News g C h' (ex ++ news)) : KpB [C] h h' := by
  intro b o hb e
  have hbC : b ≠ C := fun q => hb (q ▸ List.mem_singleton.mpr rfl)
  cases q : g.get? b with
  | some x =>
    have := F.keep b x q
    rw [e] at this
    cases this
    exact F'.keep b o q
  | none => exact (N' (b, o) (List.mem_append_right _ (W b o hbC q e))).1
theorem whole_fresh {g h : Heap} {C T : Addr} {u : Str → Option Value} {news : List (Addr × Obj)} (F : Fr g C h u) (W : ∀ b o, b ≠ C → g.get? b = none → h.get? b = some o → (b, o) ∈ news) (hC : T ≠ C) (hg : g.get? T = none) (lt : ∀ p ∈ news, p.1 < T) : h.get? T = none := by
  cases e : h.get? T with
  | none => rfl
  | some o => exact absurd (lt _ (W T o hC hg e)) (Nat.lt_irrefl _)

theorem rg_end {g : Heap} {C r : Addr} {u u' : Str → Option Value} {s₂ : Shared} {h : Heap} {tk : Nat} {b b2 : Int} {t0 u0 v0 : Tok} {news : List (Addr × Obj)} (F : Fr g C s₂.heap u') (W : ∀ b o, b ≠ C → g.get? b = none → s₂.heap.get? b = some o → (b, o) ∈ news)
    (F' : Fr g C h u) (N' : News g C h news) (hr : IsRange h r b b2 1 t0 u0 v0) : RgEnd C u b b2 s₂ (.ref r) { s₂ with heap := h, toks := tk } :=
  ⟨⟨r, t0, u0, v0, h, tk, rfl, rfl, hr, whole_keeps (ex := []) F W F' N', F'.ns⟩⟩
theorem el_end {g : Heap} {C T : Addr} {u u' : Str → Option Value} {s₂ : Shared} {h : Heap} {tk n : Nat} {i k : Int} {ti tj : Tok} {news : List (Addr × Obj)} (F : Fr g C s₂.heap u') (W : ∀ b o, b ≠ C → g.get? b = none → s₂.heap.get? b = some o → (b, o) ∈ news)
    (F' : Fr g C h u) (N' : News g C h ((T, { cls := .type "tuple", data := .seq #[.int i ti, .int k tj] n }) :: news)) (lt : ∀ p ∈ news, p.1 < T) : ElEnd C u i k s₂ (.ref T) { s₂ with heap := h, toks := tk } := by
  have z := N' _ (.head _)
  exact ⟨⟨T, ti, tj, h, tk, rfl, rfl, whole_fresh F W z.2.1 z.2.2 lt, ⟨_, z.1, rfl, n, rfl⟩, whole_keeps (ex := [_]) F W F' N', F'.ns⟩⟩

theorem compTurn_in (elt target iter : Expr) (g0 : Comprehension) (scope : Scope) (pos : Pos) (it acc : Value) (env : Env) :
    compTurn (.ListComp elt [g0, ⟨target, iter, [], 0⟩] scope pos) 1 it acc env = (standAt iter.pos >>= fun _ => pyNext it >>= fun r => match r with
      | none => pure (.done .next)
      | some v => letOwnedTupleGo target it v >>= fun _ => assign target env v >>= fun _ =>
        (eval elt env >>= fun x => call (.builtin "list.append") [acc, x] >>= fun _ => pure ()) >>= fun _ =>
          again (.compLoop (.ListComp elt [g0, ⟨target, iter, [], 0⟩] scope pos) 1 it acc env)) := by rfl

theorem compTurn_out (elt target iter target1 iter1 : Expr) (scope : Scope) (pos : Pos) (it acc : Value) (env : Env) :
    compTurn (.ListComp elt [⟨target, iter, [], 0⟩, ⟨target1, iter1, [], 0⟩] scope pos) 0 it acc env = (standAt iter.pos >>= fun _ => pyNext it >>= fun r => match r with
      | none => pure (.done .next)
      | some v => letOwnedTupleGo target it v >>= fun _ => assign target env v >>= fun _ =>
        (eval iter1 env >>= fun x => standAt iter1.pos >>= fun _ => foldedSetIterable iter1 env x >>= fun x => holding [x] (pyIter x) >>= fun it1 =>
          runOwn (.compStart (.ListComp elt [⟨target, iter, [], 0⟩, ⟨target1, iter1, [], 0⟩] scope pos) 1 it1 acc env) env >>= fun _ => 
          again (.compLoop (.ListComp elt [⟨target, iter, [], 0⟩, ⟨target1, iter1, [], 0⟩] scope pos) 0 it acc env))) := by rfl

section
variable {prog : Program} {w : World} {A : Around} {R : Result → Shared → Prop} {s : Shared}

theorem nest_in {elt iter : Expr} {g0 : Comprehension} {y : Str} {py : Pos} {scope : Scope} {pos : Pos} {I D : Addr} {cenv : Env} {m : Str → Option Value} {a b : Int} {n : Nat} {ys0 : Array Value}
    (hh : A.handled = none) (hy : cenv.kindOf y = some .local) (hp : (cenv.scope.kind == .class || (cenv.scope.kind == .module && cenv.locals != cenv.globals)) = false)
    (hDC : D ≠ cenv.locals) (hIC : I ≠ cenv.locals) (hID : I ≠ D)
    (hit : IsRangeIter s.heap I b n 1) (hl : s.heap.IsList D ys0) (hn : s.heap.Ns cenv.locals m) (hsz : ys0.size + n ≤ sizeLine)
    (helt : ∀ (k : Nat) t s₂ E', k < n → s₂.heap.Ns cenv.locals (fun z => if z = y then some (.int (b + k) t) else m z) → KpB [cenv.locals, I, D] s.heap s₂.heap →
      wpAny (model prog w) A (eval elt cenv) (ElEnd cenv.locals (fun z => if z = y then some (.int (b + k) t) else m z) a (b + k) s₂) E' s₂)
    (hR : ∀ h' tk u ys, h'.Ns cenv.locals u → (∀ z, z ≠ y → u z = m z) → h'.IsList D (ys0 ++ ys) → Paired (PtN s.heap [cenv.locals, I, D] h') ys.toList ((List.range n).map fun (k : Nat) => (a, b + (k : Int))) →
      KpB [cenv.locals, I, D] s.heap h' → R (.ok .next) { s with heap := h', toks := tk }) :
    codeAny (model prog w) A (.compLoop (.ListComp elt [g0, ⟨.Name y py, iter, [], 0⟩] scope pos) 1 (.ref I) (.ref D) cenv) R s := by
  refine codeAny_loop rfl
    (fun k s' => ∃ h' tk u ys i, s' = { s with heap := h', toks := tk } ∧ IsRangeIter h' I (b + (i : Nat)) ((n : Int) - (i : Nat)) 1 ∧ h'.IsList D (ys0 ++ ys) ∧ h'.Ns cenv.locals u ∧ (∀ z, z ≠ y → u z = m z) ∧
      Paired (PtN s.heap [cenv.locals, I, D] h') ys.toList ((List.range i).map fun (k : Nat) => (a, b + (k : Int))) ∧ i ≤ n ∧ k = n + 1 - i ∧ KpB [cenv.locals, I, D] s.heap h') ?_ (n + 1)
    ⟨s.heap, s.toks, m, #[], 0, rfl, by simpa using hit, by simpa using hl, hn, fun _ _ => rfl, by simpa using Paired.nil, Nat.zero_le _, rfl, KpB.refl _ _⟩
  rintro k s' ⟨H, tk, u, ys, i, rfl, hit', hl', hn', hu, hF, hi, rfl, hk⟩
  show wpAny _ A ((compTurn (.ListComp elt [g0, ⟨.Name y py, iter, [], 0⟩] scope pos) 1 (.ref I) (.ref D) cenv).onRaise (fun x => do noteFrame x cenv; theTreesLotGoes x)) _ _ _
  refine wpAny_noted ?_
  rw [compTurn_in]
  refine wpAny_bind (wpAny_standAt (wpAny_bind ?_))
  by_cases hlt : i < n
  · refine wpAny_pyNext_range_item hit' (by omega) fun h₁ hit₁ hs₁ => ?_
    dsimp only
    refine wpAny_bind (wpAny_of_eq (a := ()) rfl ?_)
    refine wpAny_bind (wpAny_assign_Name (wpAny_storeName_local hy (hn'.sameBut hs₁ (Ne.symm hIC)) (fun h₂ hn₂ hs₂ => ?_) hp))
    have e1 : (fun z => if z = y then some (Value.int (b + (i : Int)) tk) else u z) = fun z => if z = y then some (Value.int (b + (i : Int)) tk) else m z := by
      funext z
      by_cases hz : z = y
      · simp [hz]
      · simp [hz, hu z hz]
    have k₁ : KpB [cenv.locals, I, D] H h₁ := KpB.but hs₁ (by simp)
    have k₂ : KpB [cenv.locals, I, D] h₁ h₂ := KpB.but hs₂ (by simp)
    have hn₂' := hn₂

    rw [e1] at hn₂'
    refine wpAny_bind (wpAny_bind (wpAny_mono (helt i tk _ _ hlt hn₂' (hk.trans (k₁.trans k₂))) (fun v s₃ h₃ => ?_) fun _ _ e => e))
    obtain ⟨⟨T, ti, tj, h₃, tk₃, rfl, rfl, hTn, hT, hk₃, hn₃⟩⟩ := h₃
    try dsimp only at hTn hT hk₃ hn₃ ⊢
    have off : ∀ {p : Addr}, p ≠ cenv.locals → p ∉ [cenv.locals] := fun hp hm => hp (List.mem_singleton.mp hm)
    have hl₃ : h₃.IsList D (ys0 ++ ys) := ((hl'.extBut hs₁.extBut (Ne.symm hID)).extBut hs₂.extBut hDC).at fun o e => hk₃ _ o (off hDC) e
    have hit₃ : IsRangeIter h₃ I (b + ((i + 1 : Nat) : Int)) ((n : Int) - ((i + 1 : Nat) : Int)) 1 := by
      have q1 : b + ((i + 1 : Nat) : Int) = b + (i : Int) + 1 := by omega
      have q2 : (n : Int) - ((i + 1 : Nat) : Int) = (n : Int) - (i : Int) - 1 := by omega
      rw [q1, q2]
      exact hk₃ _ _ (off hIC) (hs₂.extBut _ _ hIC hit₁)
    have hTw : T ∉ [cenv.locals, I, D] := by
      intro hm
      have n1 : T ≠ cenv.locals := by obtain ⟨_, _, _, ho, _⟩ := hn₂; exact ne_of_none_some hTn ho
      have n2 : T ≠ I := ne_of_none_some hTn (hs₂.extBut _ _ hIC hit₁)
      have n3 : T ≠ D := by
        obtain ⟨_, ho, _⟩ := (hl'.extBut hs₁.extBut (Ne.symm hID)).extBut hs₂.extBut hDC
        exact ne_of_none_some hTn ho
      simp at hm
      rcases hm with h | h | h
      · exact n1 h
      · exact n2 h
      · exact n3 h
    have hTb : s.heap.get? T = none := none_of (hk.trans (k₁.trans k₂)) hTw hTn
    have hys : ys.size = i := by
      have := hF.length
      simpa using this
    refine wpAny_bind (wpAny_list_append (hsz := by rw [Array.size_append]; omega) hl₃ fun h₄ hl₄ hs₄ => ?_)
    have k₄ : KpB [cenv.locals, I, D] h₃ h₄ := KpB.but hs₄ (by simp)
    have kk : KpB [cenv.locals, I, D] H h₄ := k₁.trans (k₂.trans ((hk₃.more (by simp)).trans k₄))
    refine wpAny_pure ?_
    refine wpAny_pure ⟨rfl, n + 1 - (i + 1), by omega, h₄, tk₃, _, ys.push (.ref T), i + 1, rfl, ?_, ?_, hn₃.sameBut hs₄ (Ne.symm hDC), ?_, ?_, hlt, rfl, hk.trans kk⟩
    · exact (hs₄.2 I hID).trans hit₃
    · rw [Array.append_push]; exact hl₄
    · intro z hz
      simp [hz]
    · rw [List.range_succ, List.map_append, Array.toList_push]
      refine Paired.snoc (hF.mono fun _ _ hy => hy.keep kk) ⟨T, ti, tj, rfl, hTw, hTb, ?_⟩
      exact isTuple_keep hT fun o e => k₄ T o hTw e
  · have hin : i = n := by omega
    subst hin
    refine wpAny_pyNext_range_end hh hit' (by omega) fun h₁ he₁ => ?_
    refine wpAny_pure ?_
    have k₁ : KpB [cenv.locals, I, D] H h₁ := KpB.ext he₁ (by simp)
    exact hR h₁ tk u ys (hn'.extBut he₁ (Ne.symm hIC)) hu (hl'.extBut he₁ (Ne.symm hID)) (hF.mono fun _ _ hy => hy.keep k₁) (hk.trans k₁)

theorem codeAny_compStart_in {elt : Expr} {g0 : Comprehension} {target iter : Expr} {scope : Scope} {pos : Pos} {it acc : Value} {env : Env}
    (h0 : codeAny (model prog w) A (.compLoop (.ListComp elt [g0, ⟨target, iter, [], 0⟩] scope pos) 1 it acc env) R s)
    (h : wpAny (model prog w) A (pyIter it) (fun it' s' => codeAny (model prog w) A (.compLoop (.ListComp elt [g0, ⟨target, iter, [], 0⟩] scope pos) 1 it' acc env) R s')
      (notedBy (model prog w) A env fun x s' => R (.error x) s') s) :
    codeAny (model prog w) A (.compStart (.ListComp elt [g0, ⟨target, iter, [], 0⟩] scope pos) 1 it acc env) R s := by
  refine codeAny_of_tree ?_
  show wpAny _ _ ((compStart (.ListComp elt [g0, ⟨target, iter, [], 0⟩] scope pos) 1 it acc env).onRaise (fun x => do noteFrame x env; standAt theWindowsPlace)) _ _ s
  refine wpAny_notedAt ?_
  unfold compStart
  show wpAny _ _ (ask >>= _) _ _ s
  refine wpAny_bind (wpAny_askSetting (wpAny_ite ?_))
  split
  · first
      | exact wpAny_bind (wpAny_pure (wpAny_pure (And.intro rfl h0)))
      | exact wpAny_pure (And.intro rfl h0)
  · first
      | exact wpAny_bind (wpAny_rule (wpAny_bind (wpAny_standAt (wpAny_bind (wpAny_mono h (fun it' s' h' => wpAny_pure (And.intro rfl h')) fun _ _ x => x)))))
      | (refine wpAny_bind (wpAny_rule ?_); show wpAny _ _ (standAt iter.pos >>= _) _ _ s; exact wpAny_bind (wpAny_standAt (wpAny_bind (wpAny_mono h (fun it' s' h' => wpAny_pure (And.intro rfl h')) fun _ _ x => x))))

theorem Paired.append {α β : Type} {F : α → β → Prop} : ∀ {l₁ l₃ : List α} {l₂ l₄ : List β}, Paired F l₁ l₂ → Paired F l₃ l₄ → Paired F (l₁ ++ l₃) (l₂ ++ l₄)
  | _, _, _, _, .nil, h => h
  | _, _, _, _, .cons h t, k => .cons h (Paired.append t k)

def NInv (s : Shared) (I0 D C : Addr) (m : Str → Option Value) (x y : Str) (a b : Int) (n1 n2 : Nat) (k : Nat) (s' : Shared) : Prop :=
  ∃ h' tk u ys i, s' = { s with heap := h', toks := tk } ∧ IsRangeIter h' I0 (a + (i : Nat)) ((n1 : Int) - (i : Nat)) 1 ∧ h'.IsList D ys ∧ h'.Ns C u ∧ (∀ z, z ≠ x → z ≠ y → u z = m z) ∧
    Paired (PtN s.heap [C, I0, D] h') ys.toList ((List.range i).flatMap fun (i : Nat) => (List.range n2).map fun (k : Nat) => (a + (i : Int), b + (k : Int))) ∧ ys.size = i * n2 ∧ i ≤ n1 ∧ k = n1 + 1 - i ∧ KpB [C, I0, D] s.heap h'

theorem nest_out {elt iter iter1 : Expr} {x y : Str} {px py : Pos} {scope : Scope} {pos : Pos} {I0 D : Addr} {cenv : Env} {m : Str → Option Value} {a b b2 : Int} {n1 n2 : Nat}
    (hh : A.handled = none) (hx : cenv.kindOf x = some .local) (hy : cenv.kindOf y = some .local) (hxy : x ≠ y) (hp : (cenv.scope.kind == .class || (cenv.scope.kind == .module && cenv.locals != cenv.globals)) = false)
    (hDC : D ≠ cenv.locals) (hIC : I0 ≠ cenv.locals) (hID : I0 ≠ D) (hfs : ∀ x, foldedSetIterable iter1 cenv x = pure x)
    (hit : IsRangeIter s.heap I0 a n1 1) (hl : s.heap.IsList D #[]) (hn : s.heap.Ns cenv.locals m) (hsz : n1 * n2 ≤ sizeLine)
    (hsmall : Builtin.Range.small b b2 1 = true) (hsize : Builtin.Range.rangeSize b b2 1 = (n2 : Int))
    (hin : ∀ (i : Nat) t s₂ u E', i < n1 → s₂.heap.Ns cenv.locals u → u x = some (.int (a + i) t) → (∀ z, z ≠ x → z ≠ y → u z = m z) → KpB [cenv.locals, I0, D] s.heap s₂.heap →
      wpAny (model prog w) A (eval iter1 cenv) (RgEnd cenv.locals u b b2 s₂) E' s₂)
    (helt : ∀ (i k : Nat) t t' s₂ u E', i < n1 → k < n2 → s₂.heap.Ns cenv.locals u → u x = some (.int (a + i) t) → u y = some (.int (b + k) t') → (∀ z, z ≠ x → z ≠ y → u z = m z) → KpB [cenv.locals, I0, D] s.heap s₂.heap →
      wpAny (model prog w) A (eval elt cenv) (ElEnd cenv.locals u (a + i) (b + k) s₂) E' s₂)
    (hR : ∀ h' tk u ys, h'.Ns cenv.locals u → h'.IsList D ys → Paired (PtN s.heap [cenv.locals, I0, D] h') ys.toList ((List.range n1).flatMap fun (i : Nat) => (List.range n2).map fun (k : Nat) => (a + (i : Int), b + (k : Int))) →
      KpB [cenv.locals, I0, D] s.heap h' → R (.ok .next) { s with heap := h', toks := tk }) :
    codeAny (model prog w) A (.compLoop (.ListComp elt [⟨.Name x px, iter, [], 0⟩, ⟨.Name y py, iter1, [], 0⟩] scope pos) 0 (.ref I0) (.ref D) cenv) R s := by
  refine codeAny_loop rfl
    (NInv s I0 D cenv.locals m x y a b n1 n2) ?_ (n1 + 1)
    ⟨s.heap, s.toks, m, #[], 0, rfl, by simpa using hit, hl, hn, fun _ _ _ => rfl, by simpa using Paired.nil, by simp, Nat.zero_le _, rfl, KpB.refl _ _⟩
  rintro k s' ⟨H, tk, u, ys, i, rfl, hit', hl', hn', hu, hF, hys, hi, rfl, hk⟩
  show wpAny _ A ((compTurn (.ListComp elt [⟨.Name x px, iter, [], 0⟩, ⟨.Name y py, iter1, [], 0⟩] scope pos) 0 (.ref I0) (.ref D) cenv).onRaise (fun x => do noteFrame x cenv; theTreesLotGoes x)) _ _ _
  refine wpAny_noted ?_
  rw [compTurn_out]
  refine wpAny_bind (wpAny_standAt (wpAny_bind ?_))
  by_cases hlt : i < n1
  · refine wpAny_pyNext_range_item hit' (by omega) fun h₁ hit₁ hs₁ => ?_
    dsimp only
    refine wpAny_bind (wpAny_of_eq (a := ()) rfl ?_)
    refine wpAny_bind (wpAny_assign_Name (wpAny_storeName_local hx (hn'.sameBut hs₁ (Ne.symm hIC)) (fun h₂ hn₂ hs₂ => ?_) hp))
    have k₁ : KpB [cenv.locals, I0, D] H h₁ := KpB.but hs₁ (by simp)
    have k₂ : KpB [cenv.locals, I0, D] h₁ h₂ := KpB.but hs₂ (by simp)
    refine wpAny_bind (wpAny_mono (hin i tk _ _ _ hlt hn₂ (by simp) (fun z h1 h2 => by simp [h1, hu z h1 h2]) (hk.trans (k₁.trans k₂))) (fun v s₃ h₃ => ?_) fun _ _ e => e)
    obtain ⟨⟨r, t0, u0, v0, h₃, tk₃, rfl, rfl, hr, hk₃, hn₃⟩⟩ := h₃
    have off : ∀ {p : Addr}, p ≠ cenv.locals → p ∉ [cenv.locals] := fun hp hm => hp (List.mem_singleton.mp hm)
    refine wpAny_bind (wpAny_standAt (wpAny_bind (wpAny_of_eq (hfs _) (wpAny_bind (wpAny_holding (wpAny_pyIter_range hr hsmall ?_))))))
    try dsimp only at hr hk₃ hn₃ ⊢
    rw [hsize]
    have hl₃ : h₃.IsList D ys := ((hl'.extBut hs₁.extBut (Ne.symm hID)).extBut hs₂.extBut hDC).at fun o e => hk₃ _ o (off hDC) e
    have hit₃ : IsRangeIter h₃ I0 (a + (i : Int) + 1) ((n1 : Int) - (i : Int) - 1) 1 := hk₃ _ _ (off hIC) (hs₂.extBut _ _ hIC hit₁)
    have hk₃' : KpB [cenv.locals, I0, D] h₂ h₃ := hk₃.more (by simp)
    have hCI : h₃.objs.size ≠ cenv.locals := Nat.ne_of_gt hn₃.lt
    have hDI : h₃.objs.size ≠ D := by
      obtain ⟨_, ho, _⟩ := hl₃
      exact Nat.ne_of_gt (Heap.lt_size ho)
    have hI0I : h₃.objs.size ≠ I0 := Nat.ne_of_gt (Heap.lt_size hit₃)
    have hpush : ∀ b o, h₃.get? b = some o → (h₃.push { cls := .type "range_iterator", data := .fields #[rawInt b, rawInt (n2 : Int), rawInt 1] }).get? b = some o := fun _ _ e => Heap.get?_push_of_some _ e
    generalize hH : h₃.push { cls := .type "range_iterator", data := .fields #[rawInt b, rawInt (n2 : Int), rawInt 1] } = H4
    have up₄ : ∀ p o, h₃.get? p = some o → H4.get? p = some o := fun p o e => hH ▸ Heap.get?_push_of_some _ e
    have hit₄ : IsRangeIter H4 h₃.objs.size b n2 1 := hH ▸ Heap.get?_push_size _ rfl
    have kA : KpB [cenv.locals, I0, D] s.heap H4 := (hk.trans (k₁.trans (k₂.trans hk₃'))).trans (KpB.of up₄)
    have hysz : ys.size + n2 ≤ sizeLine := by
      have : (i + 1) * n2 ≤ n1 * n2 := Nat.mul_le_mul_right _ hlt
      rw [Nat.succ_mul] at this
      omega
    have fin : ∀ s₄ : Shared, s₄ = { s with heap := H4, toks := tk₃ } → codeAny (model prog w) A (.compLoop (.ListComp elt [⟨.Name x px, iter, [], 0⟩, ⟨.Name y py, iter1, [], 0⟩] scope pos) 1 (.ref h₃.objs.size) (.ref D) cenv)
        (fun r s' => match r with
          | .ok f => wpAny (model prog w) A (again (.compLoop (.ListComp elt [⟨.Name x px, iter, [], 0⟩, ⟨.Name y py, iter1, [], 0⟩] scope pos) 0 (.ref I0) (.ref D) cenv))
              (fun fin s' => match fin with
                | .done f => R (.ok f) s'
                | .again c' => c' = .compLoop (.ListComp elt [⟨.Name x px, iter, [], 0⟩, ⟨.Name y py, iter1, [], 0⟩] scope pos) 0 (.ref I0) (.ref D) cenv ∧ ∃ m_1, m_1 < n1 + 1 - i ∧ NInv s I0 D cenv.locals m x y a b n1 n2 m_1 s')
              (notedBy (model prog w) A cenv fun e s' => R (.error e) s') s'
          | .error e => cameBackBy (model prog w) A cenv (notedBy (model prog w) A cenv fun e s' => R (.error e) s') e s') s₄ := by
      rintro s₄ rfl
      refine nest_in (a := a + (i : Int)) (b := b) (n := n2) (ys0 := ys) hh hy hp hDC hCI hDI hit₄ (hl₃.at fun o e => up₄ _ o e) (hn₃.keeps up₄) hysz (fun k t s₅ E' hkn hn₅ k₅ => ?_) fun h' tk' u' zs hnz hu' hlz hFz kz => ?_
      · refine helt i k tk t s₅ _ E' hlt hkn hn₅ (by simp [hxy]) (by simp) (fun z h1 h2 => by simp [h1, h2, hu z h1 h2]) ?_
        intro p o hp' e
        by_cases hpI : p = h₃.objs.size
        · exfalso
          have := (hk.trans (k₁.trans (k₂.trans hk₃'))) p o hp' e
          rw [hpI] at this
          exact absurd (Heap.lt_size this) (Nat.lt_irrefl _)
        · refine k₅ p o ?_ (kA p o hp' e)
          simp at hp' ⊢
          exact ⟨hp'.1, hpI, hp'.2.2⟩
      · have kB : KpB [cenv.locals, I0, D] H h' := by
          intro p o hp' e
          have e₃ : h₃.get? p = some o := (k₁.trans (k₂.trans hk₃')) p o hp' e
          refine kz p o ?_ (up₄ p o e₃)
          simp at hp' ⊢
          exact ⟨hp'.1, Nat.ne_of_lt (Heap.lt_size e₃), hp'.2.2⟩
        refine wpAny_pure ⟨rfl, n1 + 1 - (i + 1), by omega, h', tk', u', ys ++ zs, i + 1, rfl, ?_, hlz, hnz, ?_, ?_, ?_, hlt, rfl, hk.trans kB⟩
        · have q1 : a + ((i + 1 : Nat) : Int) = a + (i : Int) + 1 := by omega
          have q2 : (n1 : Int) - ((i + 1 : Nat) : Int) = (n1 : Int) - (i : Int) - 1 := by omega
          rw [q1, q2]
          refine kz _ _ ?_ (up₄ _ _ hit₃)
          simp
          exact ⟨hIC, Ne.symm hI0I, hID⟩
        · intro z h1 h2
          rw [hu' z h2]
          simp [h1, hu z h1 h2]
        · rw [List.range_succ, List.flatMap_append, Array.toList_append]
          refine Paired.append (hF.mono fun _ _ hy => hy.keep kB) ?_
          simp only [List.flatMap_cons, List.flatMap_nil, List.append_nil]
          refine hFz.mono fun v p hv => ?_
          obtain ⟨T, ti, tj, rfl, hT, hTn, hTt⟩ := hv
          have hTI0 : T ≠ I0 := ne_of_none_some hTn (up₄ _ _ hit₃)
          have hT' : T ∉ [cenv.locals, I0, D] := by
            simp at hT ⊢
            exact ⟨hT.1, hTI0, hT.2.2⟩
          exact ⟨T, ti, tj, rfl, hT', none_of kA hT' hTn, hTt⟩
        · have := hFz.length
          simp at this
          rw [Array.size_append, hys, this, Nat.succ_mul]
    exact wpAny_bind (wpAny_runOwn (codeAny_compStart_in (fin _ rfl) (wpAny_pyIter_rangeiter hit₄ (fin _ rfl))))
  · have hin' : i = n1 := by omega
    subst hin'
    refine wpAny_pyNext_range_end hh hit' (by omega) fun h₁ he₁ => ?_
    refine wpAny_pure ?_
    have k₁ : KpB [cenv.locals, I0, D] H h₁ := KpB.ext he₁ (by simp)
    exact hR h₁ tk u ys (hn'.extBut he₁ (Ne.symm hIC)) (hl'.extBut he₁ (Ne.symm hID)) (hF.mono fun _ _ hy => hy.keep k₁) (hk.trans k₁)
end

/-- a pair of ints at a value -/
def PtIs (h : Heap) (y : Value) (p : Int × Int) : Prop := ∃ T ti tj, y = .ref T ∧ h.IsTuple T #[.int p.1 ti, .int p.2 tj]
theorem PtIs.keep {h h' : Heap} {y : Value} {p : Int × Int} (x : PtIs h y p) (k : Kp h h') : PtIs h' y p := by
  obtain ⟨T, ti, tj, e, hT⟩ := x
  exact ⟨T, ti, tj, e, isTuple_keep hT fun o e => k T o e⟩

section
variable {prog : Program} {w : World} {A : Around} {E : Value → Shared → Prop} {s : Shared} {env : Env}

/-- what a nested comprehension asks, its first source reckoned -/
structure NestSrc (prog : Program) (w : World) (A : Around) (env : Env) (elt iter1 : Expr) (x y : Str) (scope : Scope) (cl : List (Str × Addr)) (Q : Value → Shared → Prop) (xv : Value) (s₁ : Shared) : Prop where
  out : ∃ r t0 u0 v0 a a2 b b2, ∃ n1 n2 : Nat, xv = .ref r ∧ IsRange s₁.heap r a a2 1 t0 u0 v0 ∧ Builtin.Range.small a a2 1 = true ∧ Builtin.Range.rangeSize a a2 1 = (n1 : Int) ∧
      Builtin.Range.small b b2 1 = true ∧ Builtin.Range.rangeSize b b2 1 = (n2 : Int) ∧ n1 * n2 ≤ sizeLine ∧
      (∀ C s₂ u E', s₁.heap.objs.size ≤ C → s₂.heap.Ns C u → Kp s₁.heap s₂.heap →
        wpAny (model prog w) A (eval iter1 (compEnvC scope cl C env)) (RgEnd C u b b2 s₂) E' s₂) ∧
      (∀ C (i k : Int) t t' s₂ u E', s₁.heap.objs.size ≤ C → s₂.heap.Ns C u → u x = some (.int i t) → u y = some (.int k t') → Kp s₁.heap s₂.heap →
        wpAny (model prog w) A (eval elt (compEnvC scope cl C env)) (ElEnd C u i k s₂) E' s₂) ∧
      (∀ l h' tk ys, s₁.heap.get? l = none → h'.IsList l ys → Paired (PtIs h') ys.toList ((List.range n1).flatMap fun (i : Nat) => (List.range n2).map fun (k : Nat) => (a + (i : Int), b + (k : Int))) →
        Kp s₁.heap h' → Q (.ref l) { s₁ with heap := h', toks := tk })

theorem nest_comp {elt iter iter1 : Expr} {x y : Str} {px py : Pos} {scope : Scope} {cl : List (Str × Addr)} {pos : Pos} {Q : Value → Shared → Prop}
    (hh : A.handled = none) (hclos : closureFor scope env = pure cl) (hcell : ∀ y ∈ scope.names, y.2 ≠ .cell) (hkind : scope.kind = .function)
    (hnames : ∀ y ∈ scope.names, y.2 = .local → scope.names.lookup y.1 = some .local) (hx : scope.names.lookup x = some .local) (hy : scope.names.lookup y = some .local) (hxy : x ≠ y)
    (h : wpAny (model prog w) A (eval iter env) (NestSrc prog w A env elt iter1 x y scope cl Q) E s)
    (hs : ∀ x, foldedSetIterable iter env x = pure x := by intro _; rfl) (hs1 : ∀ cenv x, foldedSetIterable iter1 cenv x = pure x := by intro _ _; rfl) :
    wpAny (model prog w) A (eval (.ListComp elt [⟨.Name x px, iter, [], 0⟩, ⟨.Name y py, iter1, [], 0⟩] scope pos) env) Q E s := by
  rw [eval_ListComp]
  refine wpAny_comprehension_free (use := none) rfl hs hclos hkind hnames (wpAny_mono h (fun xv s₁ h₁ => ?_) fun _ _ e => e)
  obtain ⟨⟨r, t0, u0, v0, a, a2, b, b2, n1, n2, rfl, hr, hsm, hsz, hsm2, hsz2, hbig, hin, helt, hQ⟩⟩ := h₁
  refine wpAny_pyIter_range hr hsm ?_
  rw [hsz]
  generalize hH1 : s₁.heap.push { cls := .type "range_iterator", data := .fields #[rawInt a, rawInt (n1 : Int), rawInt 1] } = H1
  have z1 : H1.objs.size = s₁.heap.objs.size + 1 := by rw [← hH1, Heap.size_push]
  have up₁ : ∀ p o, s₁.heap.get? p = some o → H1.get? p = some o := fun p o e => hH1 ▸ Heap.get?_push_of_some _ e
  have hit₁ : IsRangeIter H1 s₁.heap.objs.size a n1 1 := hH1 ▸ Heap.get?_push_size _ rfl
  refine wpAny_newObj_type (wpAny_newFunctionEnv hcell (by intro y hy; simp at hy) (fun h₂ hns₂ hsb₂ => ?_) hkind)
  dsimp only at hns₂ hsb₂ ⊢
  generalize hH2 : H1.push { cls := .type "list", dict := none, data := .seq ([] : List Value).toArray } = H2 at hns₂ hsb₂ ⊢
  have z2 : H2.objs.size = H1.objs.size + 1 := by rw [← hH2, Heap.size_push]
  have n21 : H1.objs.size ≠ H2.objs.size := by rw [z2]; exact Nat.ne_of_lt (Nat.lt_succ_self _)
  have n20 : s₁.heap.objs.size ≠ H2.objs.size := by rw [z2, z1]; exact Nat.ne_of_lt (Nat.lt_succ_of_lt (Nat.lt_succ_self _))
  have n10 : s₁.heap.objs.size ≠ H1.objs.size := by rw [z1]; exact Nat.ne_of_lt (Nat.lt_succ_self _)
  have l2 : s₁.heap.objs.size ≤ H2.objs.size := by rw [z2, z1]; exact Nat.le_succ_of_le (Nat.le_succ _)
  have up₂ : ∀ p o, H1.get? p = some o → h₂.get? p = some o := fun p o e => hsb₂.extBut p o (by
    have lt := Heap.lt_size e
    rw [z2]
    exact Nat.ne_of_lt (Nat.lt_succ_of_lt lt)) (Heap.get?_push_of_some _ (hH2 ▸ Heap.get?_push_of_some _ e))
  have hacc : h₂.IsList H1.objs.size #[] := ⟨_, hsb₂.extBut _ _ n21 (Heap.get?_push_of_some _ (hH2 ▸ Heap.get?_push_size _ rfl)), rfl, _, rfl⟩
  have fresh : ∀ p, s₁.heap.objs.size ≤ p → s₁.heap.get? p = none := fun p hp => by
    cases e : s₁.heap.get? p with
    | none => rfl
    | some o' => exact absurd (Heap.lt_size e) (Nat.not_lt.mpr hp)
  have kp : ∀ (h' : Heap), KpB [H2.objs.size, s₁.heap.objs.size, H1.objs.size] h₂ h' → Kp s₁.heap h' := fun h' k p o e => by
    have lt := Heap.lt_size e
    refine k p o ?_ (up₂ p o (up₁ p o e))
    simp only [List.mem_cons, List.not_mem_nil, or_false, not_or]
    exact ⟨Nat.ne_of_lt (Nat.lt_of_lt_of_le lt l2), Nat.ne_of_lt lt, Nat.ne_of_lt (by rw [z1]; exact Nat.lt_succ_of_lt lt)⟩
  have loop : ∀ s₃ : Shared, s₃ = { s₁ with heap := h₂, toks := s₁.toks + ([] : List (Str × Value)).length } →
      codeAny (model prog w) A (.compLoop (.ListComp elt [⟨.Name x px, iter, [], 0⟩, ⟨.Name y py, iter1, [], 0⟩] scope pos) 0 (.ref s₁.heap.objs.size) (.ref H1.objs.size) (compEnvC scope cl H2.objs.size env))
        (compPost (model prog w) A E none Q (.ref H1.objs.size) H2.objs.size) s₃ := by
    rintro s₃ rfl
    refine nest_out (cenv := compEnvC scope cl H2.objs.size env) hh (lookup_relabel_local hx) (lookup_relabel_local hy) hxy (by simp [compEnvC, relabel, hkind])
      n21 n20 n10 (hs1 _)
      (up₂ _ _ hit₁) hacc hns₂ hbig hsm2 hsz2 (fun i t s₄ u E' _ hn₄ _ _ k₄ => hin H2.objs.size s₄ u E' l2 hn₄ (kp _ k₄))
      (fun i k t t' s₄ u E' _ _ hn₄ ux uy _ k₄ => helt H2.objs.size _ _ t t' s₄ u E' l2 hn₄ ux uy (kp _ k₄)) fun h' tk u ys hnu hl hF hk => ?_
    refine ⟨u, hnu, fun h'' hs'' => ?_⟩
    have kb : KpB [H2.objs.size, s₁.heap.objs.size, H1.objs.size] h' h'' := KpB.but hs'' (by simp)
    refine hQ _ h'' tk ys (fresh _ (by rw [z1]; exact Nat.le_succ _)) (hl.extBut hs''.extBut n21) (hF.mono fun v p hv => ?_) (kp _ (hk.trans kb))
    obtain ⟨T, ti, tj, e, hT, _, hTt⟩ := hv.keep kb
    exact ⟨T, ti, tj, e, hTt⟩
  exact codeAny_compStart_list (loop _ rfl) (wpAny_pyIter_rangeiter (up₂ _ _ hit₁) (loop _ rfl))
end

theorem cps {α : Type} {M : Model} {A : Around} {t : Sem α} {Q : α → Shared → Prop} {E : Value → Shared → Prop} {s : Shared} (h : ∀ Q' : α → Shared → Prop, (∀ v s', Q v s' → Q' v s') → wpAny M A t Q' E s) : wpAny M A t Q E s := h Q fun _ _ x => x

/-! names in a comprehension's own frame, lists of the base -/
section
variable {prog : Program} {w : World} {A : Around} {E : Value → Shared → Prop} {s : Shared} {env : Env} {g : Heap} {C c : Addr} {u : Str → Option Value} {scope : Scope} {cl : List (Str × Addr)} {x : Str} {pos : Pos} {v : Value} {Q : Value → Shared → Prop}

theorem nameP_L (F : Fr g C s.heap u) (hv : u x = some v) (h : Q v s)
    (hk : scope.kind = .function) (hx : (compEnvC scope cl C env).kindOf x = some .local) (hd : (x == ("__debug__" : Str)) = false) :
    wpAny (model prog w) A (eval (.Name x pos) (compEnvC scope cl C env)) Q E s := wpAny_Name (wpAny_loadName_local (env := compEnvC scope cl C env) hk hx F.ns hv h) hd
theorem nameP_C {o : Obj} (F : Fr g C s.heap u) (hc : cl.lookup x = some c) (ho : g.get? c = some o) (hd : o.data = .cell (some v)) (h : Q v s)
    (hk : scope.kind = .function) (hx : (compEnvC scope cl C env).kindOf x = some .cell) (hb : (x == ("__debug__" : Str)) = false) :
    wpAny (model prog w) A (eval (.Name x pos) (compEnvC scope cl C env)) Q E s := wpAny_Name (wpAny_loadName_cell (env := compEnvC scope cl C env) hk hx hc ⟨o, F.keep _ _ ho, hd⟩ h) hb
theorem nameP_B {K : Frag} {p : Program} {loose : List Str} {mg mb : Str → Option Value} {cn : Str} {cs : Scope} {L a : Addr} {ccd : Value} {cells : List (Str × Addr)}
    (F : Fr g C s.heap u) (X : K.In g) (T : TopRead p loose mg mb g) (e : nsIn K mainGlobals x = some none) (hv : bootBuiltins x = some v) (hn : x ≠ "__name__") (h : Q v s)
    (hk : scope.kind = .function) (hx : (compEnvC scope cl C (envX cn cs L a ccd cells)).kindOf x = some .globalImplicit) (hd : (x == ("__debug__" : Str)) = false) :
    wpAny (model prog w) A (eval (.Name x pos) (compEnvC scope cl C (envX cn cs L a ccd cells))) Q E s :=
  Name_function_global hk hx (loadGlobal_builtin (env := compEnvC scope cl C (envX cn cs L a ccd cells)) (T.g.keeps F.keep) (mg_none_of X T.g e) (T.b.keeps F.keep) ((T.builtins x hn).trans hv) h) hd

theorem methP {name : Str} {id : String} {pl : Sem Bool} {its : Array Value} {n : Nat} {l : Addr} {Q : Value × List Value → Shared → Prop} (F : Fr g C s.heap u) (hl : g.get? l = some (listOf its n)) (slot : Slot "list" name id) (hty : typeOf (.builtin id) = pure (.type "method_descriptor"))
    (h : Q (.builtin id, [.ref l]) s) : wpAny (model prog w) A (getMethod (.ref l) name pl) Q E s :=
  getMethod_builtin ⟨_, F.keep _ _ hl, rfl⟩ PySem.F.plainAttrs_list slot hty (fun a e => by cases e; exact ⟨_, F.keep _ _ hl, rfl⟩) h
theorem indexP {its : List Value} {ns : List Int} {n : Nat} {l : Addr} {k : Int} {t : Tok} {Q : Value → Shared → Prop} (F : Fr g C s.heap u) (hl : g.get? l = some (listOf its.toArray n)) (hi : IntsAre its ns)
    (hb : ns.length ≤ 4) (hk : k ∈ ns) (h : ∀ j : Nat, j = ns.idxOf k → Q (.int (j : Nat) s.toks) { s with toks := s.toks + 1 }) :
    wpAny (model prog w) A (call (.builtin "list.index") [.ref l, .int k t]) Q E s := by
  have ho := F.keep _ _ hl
  have hlen := hi.length
  have hj : ns.idxOf k < ns.length := List.idxOf_lt_length_iff.mpr hk
  refine call_meets PySem.F.slot_list_index ⟨_, ho, rfl⟩ PySem.F.entry_list_index (PySem.F.args_list_index_2 _ _)
    (PySem.SeqAt.list_indexAt l its.toArray n none #[] (.int k t) (isInt k) (ns.idxOf k) (by simpa [hlen] using hj) (by omega) ?_ ?_) ⟨ho, fun y hy => (eq_isInt k t hi y (by simpa using hy)).at _ _, h _ rfl⟩
  · show isInt k its[ns.idxOf k] = true
    rw [isInt_at k hi _ (by omega) hj]
    simpa using List.getElem_idxOf hj
  · intro j hjs hlt
    show isInt k its[j] = false
    rw [isInt_at k hi j (by simpa using hjs) (by omega)]
    exact ne_of_lt_idxOf hlt _
end

/-- sizes: a bound under which products are made -/
def MulB (B : Nat) : Prop := ∀ a b : Int, a.natAbs ≤ 64 * B → b.natAbs ≤ 64 * B → IntMulOk a b
theorem mulB_of {m : Nat} (hm : m ≤ 1048577) : MulB (2 ^ m) := by
  intro a b ha hb
  have e : 64 * 2 ^ m < 2 ^ (m + 7) := by
    rw [Nat.pow_add]
    have : 0 < 2 ^ m := Nat.two_pow_pos m
    generalize (2 : Nat) ^ m = k at this
    omega
  have h1 : Builtin.Int.intBits a ≤ m + 7 := intBits_le_iff.mpr (Nat.lt_of_le_of_lt ha e)
  have h2 : Builtin.Int.intBits b ≤ m + 7 := intBits_le_iff.mpr (Nat.lt_of_le_of_lt hb e)
  have h : Builtin.Int.intTooBig (Builtin.Int.intBits a + Builtin.Int.intBits b) = false := by
    unfold Builtin.Int.intTooBig
    rw [bitsLine_eq]
    exact decide_eq_false (by omega)
  unfold IntMulOk
  rw [h]
  simp
end

-- N2
section
/-- how a test ends in a comprehension's frame C -/
structure TsEnd (C : Addr) (u : Str → Option Value) (b : Bool) (s₂ : Shared) (ok : Bool) (s₃ : Shared) : Prop where
  out : ok = b ∧ ∃ h tk, s₃ = { s₂ with heap := h, toks := tk } ∧ KpB [C] s₂.heap h ∧ h.Ns C u
/-- how an element's expression ends there -/
structure EvEnd (C : Addr) (u : Str → Option Value) (G : Value → Prop) (s₂ : Shared) (y : Value) (s₃ : Shared) : Prop where
  out : G y ∧ ∃ h tk, s₃ = { s₂ with heap := h, toks := tk } ∧ KpB [C] s₂.heap h ∧ h.Ns C u

section
variable {prog : Program} {w : World} {A : Around} {R : Result → Shared → Prop} {s : Shared}

theorem one_loop {elt iter : Expr} {x : Str} {px : Pos} {ifs : List Expr} {scope : Scope} {pos : Pos} {I l D : Addr} {cenv : Env} {ys : List Value} {m : Str → Option Value}
    (p : Value → Bool) (G : Value → Value → Prop)
    (hh : A.handled = none) (hx : cenv.kindOf x = some .local)
    (hp : (cenv.scope.kind == .class || (cenv.scope.kind == .module && cenv.locals != cenv.globals)) = false)
    (hDI : D ≠ I) (hDC : D ≠ cenv.locals) (hIC : I ≠ cenv.locals) (hlI : l ≠ I) (hlC : l ≠ cenv.locals) (hlD : l ≠ D)
    (hit : s.heap.IsListIter I l 0) (hl : s.heap.IsList l ys.toArray) (hacc : s.heap.IsList D #[]) (hn : s.heap.Ns cenv.locals m)
    (htests : ∀ v s₂ u E', v ∈ ys → s₂.heap.Ns cenv.locals u → u x = some v → KpB [cenv.locals, I, D] s.heap s₂.heap →
      wpAny (model prog w) A (forIn ifs true fun c r => if r = true then do let ok ← isTrue c cenv (eval c cenv); pure (ForInStep.yield ok) else pure (ForInStep.yield r))
        (TsEnd cenv.locals u (p v) s₂) E' s₂)
    (helt : ∀ v s₂ u E', v ∈ ys → p v = true → s₂.heap.Ns cenv.locals u → u x = some v → KpB [cenv.locals, I, D] s.heap s₂.heap →
      wpAny (model prog w) A (eval elt cenv) (EvEnd cenv.locals u (G v) s₂) E' s₂)
    (hR : ∀ h' tk m' zs, h'.Ns cenv.locals m' → h'.IsList D zs → Paired G (ys.filter p) zs.toList → KpB [cenv.locals, I, D] s.heap h' → R (.ok .next) { s with heap := h', toks := tk })
    (hsz : ys.length ≤ sizeLine) :
    codeAny (model prog w) A (.compLoop (.ListComp elt [⟨.Name x px, iter, ifs, 0⟩] scope pos) 0 (.ref I) (.ref D) cenv) R s := by
  refine codeAny_compLoop_tests
    (fun k s' => ∃ h' tk m' zs i, s' = { s with heap := h', toks := tk } ∧ h'.IsListIter I l i ∧ h'.IsList l ys.toArray ∧ h'.IsList D zs ∧ h'.Ns cenv.locals m' ∧
      Paired G ((ys.take i).filter p) zs.toList ∧ i ≤ ys.length ∧ k = ys.length + 1 - i ∧ KpB [cenv.locals, I, D] s.heap h') ?_ (ys.length + 1)
    ⟨s.heap, s.toks, m, #[], 0, rfl, hit, hl, hacc, hn, by simpa using Paired.nil, Nat.zero_le _, rfl, KpB.refl _ _⟩
  rintro k s' ⟨H, tk, m', zs, i, rfl, hit', hl', hacc', hn', hF, hi, rfl, hk⟩
  have off : ∀ {q : Addr}, q ≠ cenv.locals → q ∉ [cenv.locals] := fun hp hm => hp (List.mem_singleton.mp hm)
  cases hv : ys.toArray[i]? with
  | none =>
    have hle : ys.length ≤ i := by simpa using hv
    refine wpAny_pyNext_list_end hh hit' hl' hv fun h₁ he₁ => ?_
    have k₁ : KpB [cenv.locals, I, D] H h₁ := KpB.ext he₁ (by simp)
    refine hR h₁ tk m' zs (hn'.extBut he₁ (Ne.symm hIC)) (hacc'.extBut he₁ hDI) ?_ (hk.trans k₁)
    rwa [List.take_of_length_le hle] at hF
  | some v =>
    have hvl : ys[i]? = some v := by simpa using hv
    have hlt : i < ys.length := (List.getElem?_eq_some_iff.mp hvl).1
    have hmem : v ∈ ys := List.mem_of_getElem? hvl
    refine wpAny_pyNext_list_item hit' hl' hv fun h₁ hit₁ hs₁ => ?_
    refine wpAny_assign_Name (wpAny_storeName_local hx (hn'.sameBut hs₁ (Ne.symm hIC)) (fun h₂ hn₂ hs₂ => ?_) hp)
    have k₁ : KpB [cenv.locals, I, D] H h₁ := KpB.but hs₁ (by simp)
    have k₂ : KpB [cenv.locals, I, D] h₁ h₂ := KpB.but hs₂ (by simp)
    refine wpAny_mono (htests v _ _ _ hmem hn₂ (by simp) (hk.trans (k₁.trans k₂))) (fun ok s₃ h₃ => ?_) fun _ _ e => e
    obtain ⟨⟨rfl, h₃, tk₃, rfl, hk₃, hn₃⟩⟩ := h₃
    try dsimp only at hk₃ hn₃ ⊢
    have hit₃ : h₃.IsListIter I l (i + 1) := (hit₁.extBut hs₂.extBut hIC).at fun o e => hk₃ _ o (off hIC) e
    have hl₃ : h₃.IsList l ys.toArray := ((hl'.extBut hs₁.extBut hlI).extBut hs₂.extBut hlC).at fun o e => hk₃ _ o (off hlC) e
    have hacc₃ : h₃.IsList D zs := ((hacc'.extBut hs₁.extBut hDI).extBut hs₂.extBut hDC).at fun o e => hk₃ _ o (off hDC) e
    have k₃ : KpB [cenv.locals, I, D] s.heap h₃ := (hk.trans (k₁.trans k₂)).trans (hk₃.more (by simp))
    have hzs : zs.size ≤ sizeLine := by
      have e1 := hF.length
      have e2 : ((ys.take i).filter p).length ≤ (ys.take i).length := List.length_filter_le _ _
      have e3 : (ys.take i).length ≤ ys.length := by rw [List.length_take]; omega
      have e4 : zs.toList.length = zs.size := by simp
      omega
    cases hpv : p v with
    | false =>
      simp only [Bool.false_eq_true, if_false]
      refine ⟨ys.length + 1 - (i + 1), by omega, h₃, tk₃, _, zs, i + 1, rfl, hit₃, hl₃, hacc₃, hn₃, ?_, hlt, rfl, k₃⟩
      rw [take_succ_filter p _ i v hvl, hpv]
      simpa using hF
    | true =>
      simp only [if_true]
      refine wpAny_mono (helt v _ _ _ hmem hpv hn₃ (by simp) k₃) (fun y s₄ h₄ => ?_) fun _ _ e => e
      obtain ⟨⟨hG, h₄, tk₄, rfl, hk₄, hn₄⟩⟩ := h₄
      try dsimp only at hk₄ hn₄ ⊢
      refine wpAny_list_append (hsz := hzs) (hacc₃.at fun o e => hk₄ _ o (off hDC) e) fun h₅ hl₅ hs₅ => ?_
      refine ⟨ys.length + 1 - (i + 1), by omega, h₅, tk₄, _, zs.push y, i + 1, rfl, (hit₃.at fun o e => hk₄ _ o (off hIC) e).extBut hs₅.extBut (Ne.symm hDI), (hl₃.at fun o e => hk₄ _ o (off hlC) e).extBut hs₅.extBut hlD, hl₅,
        hn₄.sameBut hs₅ (Ne.symm hDC), ?_, hlt, rfl, k₃.trans ((hk₄.more (by simp)).trans (KpB.but hs₅ (by simp)))⟩
      rw [take_succ_filter p _ i v hvl, hpv, Array.toList_push]
      simpa using Paired.snoc hF hG
end

section
variable {prog : Program} {w : World} {A : Around} {E : Value → Shared → Prop} {env : Env}

/-- what a comprehension over one list asks, its source reckoned -/
structure OneSrc (prog : Program) (w : World) (A : Around) (env : Env) (elt : Expr) (x : Str) (ifs : List Expr) (scope : Scope) (cl : List (Str × Addr)) (p : Value → Bool) (G : Value → Value → Prop) (ys : List Value) (xv : Value) (s₁ : Shared) : Prop where
  out : ∃ l : Addr, xv = .ref l ∧ s₁.heap.IsList l ys.toArray ∧ ys.length ≤ sizeLine ∧
    (∀ v C s₂ u E', v ∈ ys → s₁.heap.objs.size ≤ C → s₂.heap.Ns C u → u x = some v → Kp s₁.heap s₂.heap →
      wpAny (model prog w) A (forIn ifs true fun c r => if r = true then do let ok ← isTrue c (compEnvC scope cl C env) (eval c (compEnvC scope cl C env)); pure (ForInStep.yield ok) else pure (ForInStep.yield r)) (TsEnd C u (p v) s₂) E' s₂) ∧
    (∀ v C s₂ u E', v ∈ ys → p v = true → s₁.heap.objs.size ≤ C → s₂.heap.Ns C u → u x = some v → Kp s₁.heap s₂.heap →
      wpAny (model prog w) A (eval elt (compEnvC scope cl C env)) (EvEnd C u (G v) s₂) E' s₂)

structure OneQ (prog : Program) (w : World) (A : Around) (env : Env) (elt : Expr) (x : Str) (ifs : List Expr) (scope : Scope) (cl : List (Str × Addr)) (p : Value → Bool) (G : Value → Value → Prop) (Q : Value → Shared → Prop) (xv : Value) (s₁ : Shared) : Prop where
  out : ∃ ys, OneSrc prog w A env elt x ifs scope cl p G ys xv s₁ ∧ ∀ D h' tk zs, s₁.heap.get? D = none → h'.IsList D zs → Paired G (ys.filter p) zs.toList → Kp s₁.heap h' → Q (.ref D) { s₁ with heap := h', toks := tk }

structure OneA (prog : Program) (w : World) (A : Around) (env : Env) (elt : Expr) (x : Str) (ifs : List Expr) (scope : Scope) (cl : List (Str × Addr)) (p : Value → Bool) (G : Value → Value → Prop) (y : Str) (Q : Flow → Shared → Prop) (xv : Value) (s₁ : Shared) : Prop where
  out : ∃ ys m, s₁.heap.Ns env.locals m ∧ OneSrc prog w A env elt x ifs scope cl p G ys xv s₁ ∧ ∀ D h' tk zs, s₁.heap.get? D = none → h'.IsList D zs → Paired G (ys.filter p) zs.toList →
    h'.Ns env.locals (fun z => if z = y then some (.ref D) else m z) → KpB [env.locals] s₁.heap h' → Q .next { s₁ with heap := h', toks := tk }

theorem one_block {elt iter : Expr} {x : Str} {px : Pos} {ifs : List Expr} {scope : Scope} {cl : List (Str × Addr)} {pos : Pos} {s₁ : Shared} {p : Value → Bool} {G : Value → Value → Prop} {ys : List Value} {xv : Value} {RR : Value → Addr → Result → Shared → Prop}
    (hh : A.handled = none) (hcell : ∀ y ∈ scope.names, y.2 ≠ .cell) (hkind : scope.kind = .function) (hx : scope.names.lookup x = some .local)
    (S : OneSrc prog w A env elt x ifs scope cl p G ys xv s₁)
    (hRR : ∀ D C h' tk m' zs, s₁.heap.get? D = none → s₁.heap.get? C = none → D ≠ C → h'.Ns C m' → h'.IsList D zs → Paired G (ys.filter p) zs.toList → Kp s₁.heap h' → RR (.ref D) C (.ok .next) { s₁ with heap := h', toks := tk }) :
    wpAny (model prog w) A (pyIter xv) (fun it s₂ => wpAny (model prog w) A (newList []) (fun acc s₃ => wpAny (model prog w) A (newFunctionEnv scope env.globals cl [] env.qual none .none (some env)) (fun cenv s₄ =>
      codeAny (model prog w) A (.compStart (.ListComp elt [⟨.Name x px, iter, ifs, 0⟩] scope pos) 0 it acc { cenv with scope := relabel scope env }) (RR acc cenv.locals) s₄) E s₃) E s₂) E s₁ := by
  obtain ⟨l, rfl, hl, hsz, hts, hel⟩ := S.out
  refine wpAny_pyIter_list hl ?_
  generalize hH1 : s₁.heap.push { cls := .type "list_iterator", data := .fields #[.ref l, .int 0 0] } = H1
  have z1 : H1.objs.size = s₁.heap.objs.size + 1 := by rw [← hH1, Heap.size_push]
  have up₁ : ∀ p o, s₁.heap.get? p = some o → H1.get? p = some o := fun p o e => hH1 ▸ Heap.get?_push_of_some _ e
  have hit₁ : H1.IsListIter s₁.heap.objs.size l 0 := ⟨_, hH1 ▸ Heap.get?_push_size _ rfl, rfl, rfl⟩
  refine wpAny_newObj_type (wpAny_newFunctionEnv hcell (by intro y hy; simp at hy) (fun h₂ hns₂ hsb₂ => ?_) hkind)
  dsimp only at hns₂ hsb₂ ⊢
  generalize hH2 : H1.push { cls := .type "list", dict := none, data := .seq ([] : List Value).toArray } = H2 at hns₂ hsb₂ ⊢
  have z2 : H2.objs.size = H1.objs.size + 1 := by rw [← hH2, Heap.size_push]
  have n21 : H1.objs.size ≠ H2.objs.size := by rw [z2]; exact Nat.ne_of_lt (Nat.lt_succ_self _)
  have n20 : s₁.heap.objs.size ≠ H2.objs.size := by rw [z2, z1]; exact Nat.ne_of_lt (Nat.lt_succ_of_lt (Nat.lt_succ_self _))
  have n10 : s₁.heap.objs.size ≠ H1.objs.size := by rw [z1]; exact Nat.ne_of_lt (Nat.lt_succ_self _)
  have l2 : s₁.heap.objs.size ≤ H2.objs.size := by rw [z2, z1]; exact Nat.le_succ_of_le (Nat.le_succ _)
  have up₂ : ∀ p o, H1.get? p = some o → h₂.get? p = some o := fun p o e => hsb₂.extBut p o (by
    have lt := Heap.lt_size e
    rw [z2]
    exact Nat.ne_of_lt (Nat.lt_succ_of_lt lt)) (Heap.get?_push_of_some _ (hH2 ▸ Heap.get?_push_of_some _ e))
  have hacc : h₂.IsList H1.objs.size #[] := ⟨_, hsb₂.extBut _ _ n21 (Heap.get?_push_of_some _ (hH2 ▸ Heap.get?_push_size _ rfl)), rfl, _, rfl⟩
  have fresh : ∀ p, s₁.heap.objs.size ≤ p → s₁.heap.get? p = none := fun p hp => by
    cases e : s₁.heap.get? p with
    | none => rfl
    | some o' => exact absurd (Heap.lt_size e) (Nat.not_lt.mpr hp)
  have kp : ∀ (h' : Heap), KpB [H2.objs.size, s₁.heap.objs.size, H1.objs.size] h₂ h' → Kp s₁.heap h' := fun h' k p o e => by
    have lt := Heap.lt_size e
    refine k p o ?_ (up₂ p o (up₁ p o e))
    simp only [List.mem_cons, List.not_mem_nil, or_false, not_or]
    exact ⟨Nat.ne_of_lt (Nat.lt_of_lt_of_le lt l2), Nat.ne_of_lt lt, Nat.ne_of_lt (by rw [z1]; exact Nat.lt_succ_of_lt lt)⟩
  have hlt : l < s₁.heap.objs.size := by obtain ⟨_, ho, _⟩ := hl; exact Heap.lt_size ho
  have loop : ∀ s₃ : Shared, s₃ = { s₁ with heap := h₂, toks := s₁.toks + ([] : List (Str × Value)).length } →
      codeAny (model prog w) A (.compLoop (.ListComp elt [⟨.Name x px, iter, ifs, 0⟩] scope pos) 0 (.ref s₁.heap.objs.size) (.ref H1.objs.size) (compEnvC scope cl H2.objs.size env))
        (RR (.ref H1.objs.size) H2.objs.size) s₃ := by
    rintro s₃ rfl
    refine one_loop (cenv := compEnvC scope cl H2.objs.size env) p G hh (lookup_relabel_local hx) (by simp [compEnvC, relabel, hkind])
      (Ne.symm n10) n21 n20 (Nat.ne_of_lt hlt) (Nat.ne_of_lt (Nat.lt_of_lt_of_le hlt l2)) (Nat.ne_of_lt (by rw [z1]; exact Nat.lt_succ_of_lt hlt))
      (hit₁.at fun o e => up₂ _ o e) ((hl.at fun o e => up₁ _ o e).at fun o e => up₂ _ o e) hacc hns₂
      (fun v s₄ u E' hv hn₄ hu k₄ => hts v H2.objs.size s₄ u E' hv l2 hn₄ hu (kp _ k₄))
      (fun v s₄ u E' hv hpv hn₄ hu k₄ => hel v H2.objs.size s₄ u E' hv hpv l2 hn₄ hu (kp _ k₄)) (fun h' tk u zs hnu hlz hF hk => ?_) hsz
    exact hRR _ _ h' tk u zs (fresh _ (by rw [z1]; exact Nat.le_succ _)) (fresh _ l2) n21 hnu hlz hF (kp _ hk)
  exact codeAny_compStart_list (loop _ rfl) (wpAny_pyIter_listiter (hit₁.at fun o e => up₂ _ o e) (loop _ rfl))

theorem one_comp {s : Shared} {elt iter : Expr} {x : Str} {px : Pos} {ifs : List Expr} {scope : Scope} {cl : List (Str × Addr)} {pos : Pos} {Q : Value → Shared → Prop} (p : Value → Bool) (G : Value → Value → Prop)
    (hh : A.handled = none) (hclos : closureFor scope env = pure cl) (hcell : ∀ y ∈ scope.names, y.2 ≠ .cell) (hkind : scope.kind = .function)
    (hnames : ∀ y ∈ scope.names, y.2 = .local → scope.names.lookup y.1 = some .local) (hx : scope.names.lookup x = some .local)
    (h : wpAny (model prog w) A (eval iter env) (OneQ prog w A env elt x ifs scope cl p G Q) E s)
    (hs : ∀ x, foldedSetIterable iter env x = pure x := by intro _; rfl) :
    wpAny (model prog w) A (eval (.ListComp elt [⟨.Name x px, iter, ifs, 0⟩] scope pos) env) Q E s := by
  rw [eval_ListComp]
  refine wpAny_comprehension_free (use := none) rfl hs hclos hkind hnames (wpAny_mono h (fun xv s₁ h₁ => ?_) fun _ _ e => e)
  obtain ⟨⟨ys, S, hQ⟩⟩ := h₁
  refine one_block (RR := fun acc C => compPost (model prog w) A E none Q acc C) hh hcell hkind hx S ?_
  intro D C h' tk m' zs hD hC hDC hn hl hF hk
  refine ⟨m', hn, fun h'' hs'' => hQ D h'' tk zs hD (hl.extBut hs''.extBut hDC) hF fun b o e => hs''.extBut b o ?_ (hk b o e)⟩
  rintro rfl
  rw [hC] at e
  cases e

theorem one_assign {s : Shared} {elt iter : Expr} {x y : Str} {px py : Pos} {ifs : List Expr} {scope : Scope} {cl : List (Str × Addr)} {pos spos : Pos} {Q : Flow → Shared → Prop}
    (p : Value → Bool) (G : Value → Value → Prop)
    (hsw : swapsWith (.ListComp elt [⟨.Name x px, iter, ifs, 0⟩] scope pos) (some (.Name y py)) spos.line env = pure true)
    (hh : A.handled = none) (hclos : closureFor scope env = pure cl) (hcell : ∀ y ∈ scope.names, y.2 ≠ .cell) (hkind : scope.kind = .function)
    (hnames : ∀ y ∈ scope.names, y.2 = .local → scope.names.lookup y.1 = some .local) (hx : scope.names.lookup x = some .local)
    (hy : env.kindOf y = some .local) (hp : (env.scope.kind == .class || (env.scope.kind == .module && env.locals != env.globals)) = false)
    (h : wpAny (model prog w) A (eval iter env) (OneA prog w A env elt x ifs scope cl p G y Q) E s)
    (hs : ∀ x, foldedSetIterable iter env x = pure x := by intro _; rfl) :
    wpAny (model prog w) A (exec (.Assign [.Name y py] (.ListComp elt [⟨.Name x px, iter, ifs, 0⟩] scope pos) spos) env) Q E s := by
  rw [exec_Assign_Name_used _ _ _ _ hsw]
  refine wpAny_bind (wpAny_standAt (wpAny_bind ?_))
  show wpAny _ A (do let _ ← comprehension (.ListComp elt [⟨.Name x px, iter, ifs, 0⟩] scope pos) scope env _ (newList []) false (eval iter env) (some (assign (.Name y py) env))) _ _ s
  refine wpAny_bind (wpAny_mono (wpAny_comprehension_free (use := some (assign (.Name y py) env)) (Q := fun _ s' => Q .next s') rfl hs hclos hkind hnames
    (wpAny_mono h (fun xv s₁ h₁ => ?_) fun _ _ e => e)) (fun _ s' hq => wpAny_pure (wpAny_pure hq)) fun _ _ e => e)
  obtain ⟨⟨ys, m, hm, S, hQ⟩⟩ := h₁
  refine one_block (RR := fun acc C => compPost (model prog w) A E (some (assign (.Name y py) env)) (fun _ s' => Q .next s') acc C) hh hcell hkind hx S ?_
  intro D C h' tk m' zs hD hC hDC hnC hl hF hk
  have hLC : env.locals ≠ C := by rintro rfl; obtain ⟨o, _, _, ho, _⟩ := hm; rw [hC] at ho; cases ho
  have hLD : env.locals ≠ D := by rintro rfl; obtain ⟨o, _, _, ho, _⟩ := hm; rw [hD] at ho; cases ho
  show wpAny _ A (assign (.Name y py) env (.ref D)) _ _ _
  refine wpAny_assign_Name (wpAny_storeName_local hy (hm.keeps hk) (fun h₂ hn₂ hs₂ => ?_) hp)
  refine ⟨m', hnC.sameBut hs₂ (Ne.symm hLC), fun h₃ hs₃ => ?_⟩
  refine hQ D h₃ _ zs hD ((hl.extBut hs₂.extBut (Ne.symm hLD)).extBut hs₃.extBut hDC) hF (hn₂.sameBut hs₃ hLC) fun b o hb e => ?_
  have hbL : b ≠ env.locals := fun q => hb (q ▸ List.mem_singleton.mpr rfl)
  refine hs₃.extBut b o ?_ (hs₂.extBut b o hbL (hk b o e))
  rintro rfl
  rw [hC] at e
  cases e
end
end

-- P2p
section
theorem Fr.up {h₀ h h' : Heap} {L : Addr} {m : Str → Option Value} (F : Fr h₀ L h m) (K : Kp h h') : Fr h₀ L h' m := ⟨F.ns.keeps K, fun b o e => K _ _ (F.keep b o e), F.above⟩
theorem News.up {h₀ h h' : Heap} {L : Addr} {news : List (Addr × Obj)} (N : News h₀ L h news) (K : Kp h h') : News h₀ L h' news := fun p hp => ⟨K _ _ (N p hp).1, (N p hp).2⟩

/-- a property, by the contract of its def -/
theorem pg {w : World} {dp un : Nat} {gd : Option (List Code)} {cn nm : Str} {cs : Scope} {L aa a C p f : Addr} {ccd : Value} {cl : List (Str × Addr)} {outer : List Env} {A₀ : Around} {base h₀ : Heap} {m : Str → Option Value} {mean : ExcName → Option Value} {mg mb : Str → Option Value} {s : Shared} {ox od : Obj} {i : Int} {rest : List Value} {expr : Bool} {news : List (Addr × Obj)} {Q E : Value → Shared → Prop}
    (hP : Pur w dp (un + 1) f ⟨[.ref a], []⟩ { s with toks := s.toks + 1 } (fun v _ => ∃ t, v = .int i t)) (B : Below A₀ base outer h₀) (F : Fr h₀ L s.heap m) (X : (Mine.K0 w.params).In h₀) (T : Top Mine.Vw (looseW Mine.Vw [Str.ofString "Rectangle"]) mean mg mb h₀) (hk : cs.kind = .function) (N : News h₀ L s.heap news)
    (I : InstAt s.heap a ox C (some od)) (hg : plainGet (Mine.K0 w.params) C nm = true) (hh : hasDictIn (Mine.K0 w.params) C = true)
    (ha : findIn (Mine.K0 w.params) (.ref C) nm = some (some (.ref p))) (hn : specialIn (Mine.K0 w.params) (.ref p) "__get__" = some (some (.builtin "property.__get__"))) (ht : takesIn (Mine.K0 w.params) (.ref p) = some true) (hp : recIn (Mine.K0 w.params) p "property" = some (.ref f :: rest))
    (h : ∀ t h' tk', Fr h₀ L h' m → News h₀ L h' news → Q (.int i t) { s with heap := h', toks := tk' }) :
    wpAny (model PySem.Challenge.rw_jb0029_01.row.prog w) (ktrTop dp un gd cn cs L aa ccd cl outer) (getAttr (.ref a) nm expr) Q E s := by
  refine get_prop F X I hg hh ha hn ht hp ?_
  exact hP mean mg mb gd cn cs aa ccd cl outer A₀ base h₀ L m _ B F X T hk fun v h' tk' K q => by
    obtain ⟨t, rfl⟩ := q
    exact handed_on rfl (h t h' tk' (Fr.up F K) (News.up N K))
end

local macro_rules | `(tactic| walk_at "m_base") => `(tactic| first
  | with_reducible assumption
  | (refine' Fr.keep ?fk _ _ ?fh; (case fk => with_reducible assumption); (case fh => with_reducible assumption))
  | (refine' Fr.keep ?fk _ _ (Fr.keep ?fk2 _ _ ?fh); (case fk => with_reducible assumption); (case fk2 => with_reducible assumption); (case fh => with_reducible assumption)))
local macro_rules | `(tactic| k_inst) => `(tactic| (refine' InstAt.of_base ?F ?h1 ?h2; (case F => k_asm); (case h1 => walk_at "m_base"); (case h2 => walk_at "m_base")))
local macro_rules | `(tactic| k_room) => `(tactic| ktr_room)
local macro_rules | `(tactic| walk_at "m_enter") => `(tactic| k_dflt (refine' code_pure ?k1 ?k2 ?k3 ?k5 ?kA ?kF ?kK ?k6 ?k7 ?k8 ?k9 ?kB ?_ ?c2 ?c3 ?c4 ?c5; (case kA => exact rfl); (case kF => exact rfl); (case kK => assumption); (case k1 => k_asm); (case k2 => k_asm); (case k3 => k_asm); (case k5 => k_asm); (case k6 => k_is); (case k7 => k_is); (case k8 => ktr_room); (case k9 => first | exact BindsTo.of_eq rfl | exact binds_K (by k_in) rfl (by k_is) rfl rfl rfl | fail "m_enter: no rule for these arguments"); (case c5 => decide); (case kB => exact locs rfl); (case c2 => exact rfl); (case c3 => exact rfl); (case c4 => exact rfl); k_whole; intro L' h' F' N' B' X' T'; (try dsimp only); (try k_lift B'); (try k_fold)))
local macro_rules | `(tactic| walk_at "m_enterC") => `(tactic| k_dflt (refine' code_pureC ?k1 ?k2 ?k3 ?k5 ?kA ?kF ?kK ?k6 ?k7 ?k8 ?k9 ?kB ?kD ?_ ?c2 ?c3 ?c4; (case kA => exact rfl); (case kF => exact rfl); (case kK => assumption); (case k1 => k_asm); (case k2 => k_asm); (case k3 => k_asm); (case k5 => k_asm); (case k6 => k_is); (case k7 => k_is); (case k8 => ktr_room); (case k9 => first | exact BindsTo.of_eq rfl | exact binds_K (by k_in) rfl (by k_is) rfl rfl rfl | fail "m_enterC: no rule for these arguments"); (case kB => exact rfl); (case kD => decide +kernel); (case c2 => exact rfl); (case c3 => exact rfl); (case c4 => exact rfl); k_whole; intro L' h' tk' cells' F' N' Y' B' X' T'; k_cells Y'; (try simp only [List.cons_append, List.nil_append] at N'); (try dsimp only); (try k_lift B'); (try k_fold)))
local macro_rules | `(tactic| walk_at "m_end") => `(tactic| ((try dsimp only); (try (k_unfold; (try dsimp only))); refine' pend ?pe1 ?pe2 ?_; (case pe1 => assumption); (case pe2 => assumption); (try dsimp only)))
local macro_rules | `(tactic| walk_at "eval Name") => `(tactic| (k_here; (with_reducible show wpAny _ _ (eval (Expr.Name _ _) (compEnvC _ _ _ _)) _ _ _); k_dflt (first
  | (refine' nameP_L ?F ?v ?_ ?a ?b ?d; (case a => exact rfl); (case b => kernel_rfl!); (case d => decide); (case F => k_asm); (case v => with_reducible assumption))
  | (refine' nameP_C ?F ?c ?o ?d ?_ ?a ?b ?e; (case a => exact rfl); (case b => kernel_rfl!); (case e => decide); (case F => k_asm); (case c => exact rfl); (case o => with_reducible assumption); (case d => with_reducible assumption))
  | (refine' nameP_B ?F ?X ?T ?e ?v ?n ?_ ?a ?b ?d; (case a => exact rfl); (case b => kernel_rfl!); (case d => decide); (case F => k_asm); (case X => k_asm); (case T => k_asm); (case e => k_is); (case v => boot_fast); (case n => decide)))))
local macro_rules | `(tactic| walk_at "newTuple") => `(tactic| (k_here; k_dflt (refine' kup_newTuple ?F ?N ?_ ?z; (case F => k_asm); (case N => k_asm); (case z => exact Nat.le_of_ble_eq_true rfl)); intro D' h' F' N' l1; (try k_sweep)))
local macro_rules | `(tactic| walk_at "m_pre") => `(tactic| ((try dsimp only); (try (k_unfold; (try dsimp only)))))
local macro_rules | `(tactic| k_in) => `(tactic| (refine' Frag.In.keeps ?inA (Fr.keep ?inB); (case inB => k_asm); (case inA => k_asm)))
local macro_rules | `(tactic| walk_at "ite") => `(tactic| (k_here; (first | (refine' ite_pos (decide_eq_true ?itA) ?_; (case itA => with_reducible assumption)) | (refine' ite_isFalse (decide_eq_false ?itB) ?_; (case itB => with_reducible assumption)) | (refine' ite_pos ?itC ?_; (case itC => with_reducible assumption)) | (refine' ite_neg ?itD ?_; (case itD => with_reducible assumption)) | (refine' ite_isFalse ?itE ?_; (case itE => with_reducible assumption))); walk_say "PRUNED here"))
theorem rs1 {M : Model} {A : Around} {env : Env} {E : Value → Shared → Prop} {Q : Flow → Shared → Prop} {s : Shared} (h : wpAny M A (execs [] env) Q E s) : wpAny M A (execs [] env) Q E s := by
  w_top off
  first | (walk1; done) | exact h

section
section
variable {w : World} {dp un : Nat} {s : Shared} {a da : Addr} {ta tb tc td te : Tok} {x y wd ht : Int} {tx ty tw th : Tok}
set_option maxHeartbeats 1000000 in
theorem pur_bottom (hd : dp ≤ 600) (hu : un ≤ 6000) (ha : s.heap.get? a = some (instObj 203 da)) (hda : s.heap.get? da = some (rd w.params ta tb tc td te x y wd ht tx ty tw th)) :
    Pur w dp un 78 ⟨[.ref a], []⟩ s (fun v _ => ∃ t, v = .int y t) := by
  intro mean mg mb gd cn cs aa ccd cl outer A₀ base h₀ L m R B F X T hk hret
  walk_at "m_enter"
  k_steps
  all_goals ((try dsimp only); (try (k_unfold; (try dsimp only))); refine' pend hret ?pe2 ⟨_, rfl⟩; (case pe2 => assumption))
set_option maxHeartbeats 1000000 in
theorem pur_left (hd : dp ≤ 600) (hu : un ≤ 6000) (ha : s.heap.get? a = some (instObj 203 da)) (hda : s.heap.get? da = some (rd w.params ta tb tc td te x y wd ht tx ty tw th)) :
    Pur w dp un 94 ⟨[.ref a], []⟩ s (fun v _ => ∃ t, v = .int x t) := by
  intro mean mg mb gd cn cs aa ccd cl outer A₀ base h₀ L m R B F X T hk hret
  walk_at "m_enter"
  k_steps
  all_goals ((try dsimp only); (try (k_unfold; (try dsimp only))); refine' pend hret ?pe2 ⟨_, rfl⟩; (case pe2 => assumption))
set_option maxHeartbeats 1000000 in
theorem pur_top (hd : dp ≤ 600) (hu : un ≤ 6000) (ha : s.heap.get? a = some (instObj 203 da)) (hda : s.heap.get? da = some (rd w.params ta tb tc td te x y wd ht tx ty tw th)) :
    Pur w dp un 86 ⟨[.ref a], []⟩ s (fun v _ => ∃ t, v = .int (y + ht) t) := by
  intro mean mg mb gd cn cs aa ccd cl outer A₀ base h₀ L m R B F X T hk hret
  walk_at "m_enter"
  k_steps
  all_goals ((try dsimp only); (try (k_unfold; (try dsimp only))); refine' pend hret ?pe2 ⟨_, rfl⟩; (case pe2 => assumption))
set_option maxHeartbeats 1000000 in
theorem pur_right (hd : dp ≤ 600) (hu : un ≤ 6000) (ha : s.heap.get? a = some (instObj 203 da)) (hda : s.heap.get? da = some (rd w.params ta tb tc td te x y wd ht tx ty tw th)) :
    Pur w dp un 102 ⟨[.ref a], []⟩ s (fun v _ => ∃ t, v = .int (x + wd) t) := by
  intro mean mg mb gd cn cs aa ccd cl outer A₀ base h₀ L m R B F X T hk hret
  walk_at "m_enter"
  k_steps
  all_goals ((try dsimp only); (try (k_unfold; (try dsimp only))); refine' pend hret ?pe2 ⟨_, rfl⟩; (case pe2 => assumption))
variable {gd : Option (List Code)} {cn : Str} {cs : Scope} {L aa : Addr} {ccd : Value} {cl : List (Str × Addr)} {outer : List Env} {A₀ : Around} {base h₀ : Heap} {m : Str → Option Value} {mean : ExcName → Option Value} {mg mb : Str → Option Value} {news : List (Addr × Obj)} {Q E : Value → Shared → Prop} {expr : Bool}
theorem p_bottom (hd : dp ≤ 600) (hu : un ≤ 5999) (B : Below A₀ base outer h₀) (F : Fr h₀ L s.heap m) (X : (Mine.K0 w.params).In h₀) (T : Top Mine.Vw (looseW Mine.Vw [Str.ofString "Rectangle"]) mean mg mb h₀) (hk : cs.kind = .function) (N : News h₀ L s.heap news)
    (ha : s.heap.get? a = some (instObj 203 da)) (hda : s.heap.get? da = some (rd w.params ta tb tc td te x y wd ht tx ty tw th))
    (h : ∀ t h' tk', Fr h₀ L h' m → News h₀ L h' news → Q (.int y t) { s with heap := h', toks := tk' }) :
    wpAny (model PySem.Challenge.rw_jb0029_01.row.prog w) (ktrTop dp un gd cn cs L aa ccd cl outer) (getAttr (.ref a) (Str.ofString "bottom") expr) Q E s :=
  pg (pur_bottom (s := { s with toks := s.toks + 1 }) hd (Nat.succ_le_succ hu) ha hda) B F X T hk N ⟨ha, rfl, rfl, hda⟩ (by k_is) (by k_is) (by k_is) (by k_is) (by k_is) (by k_is) h
theorem p_left (hd : dp ≤ 600) (hu : un ≤ 5999) (B : Below A₀ base outer h₀) (F : Fr h₀ L s.heap m) (X : (Mine.K0 w.params).In h₀) (T : Top Mine.Vw (looseW Mine.Vw [Str.ofString "Rectangle"]) mean mg mb h₀) (hk : cs.kind = .function) (N : News h₀ L s.heap news)
    (ha : s.heap.get? a = some (instObj 203 da)) (hda : s.heap.get? da = some (rd w.params ta tb tc td te x y wd ht tx ty tw th))
    (h : ∀ t h' tk', Fr h₀ L h' m → News h₀ L h' news → Q (.int x t) { s with heap := h', toks := tk' }) :
    wpAny (model PySem.Challenge.rw_jb0029_01.row.prog w) (ktrTop dp un gd cn cs L aa ccd cl outer) (getAttr (.ref a) (Str.ofString "left") expr) Q E s :=
  pg (pur_left (s := { s with toks := s.toks + 1 }) hd (Nat.succ_le_succ hu) ha hda) B F X T hk N ⟨ha, rfl, rfl, hda⟩ (by k_is) (by k_is) (by k_is) (by k_is) (by k_is) (by k_is) h
theorem p_top (hd : dp ≤ 600) (hu : un ≤ 5999) (B : Below A₀ base outer h₀) (F : Fr h₀ L s.heap m) (X : (Mine.K0 w.params).In h₀) (T : Top Mine.Vw (looseW Mine.Vw [Str.ofString "Rectangle"]) mean mg mb h₀) (hk : cs.kind = .function) (N : News h₀ L s.heap news)
    (ha : s.heap.get? a = some (instObj 203 da)) (hda : s.heap.get? da = some (rd w.params ta tb tc td te x y wd ht tx ty tw th))
    (h : ∀ t h' tk', Fr h₀ L h' m → News h₀ L h' news → Q (.int (y + ht) t) { s with heap := h', toks := tk' }) :
    wpAny (model PySem.Challenge.rw_jb0029_01.row.prog w) (ktrTop dp un gd cn cs L aa ccd cl outer) (getAttr (.ref a) (Str.ofString "top") expr) Q E s :=
  pg (pur_top (s := { s with toks := s.toks + 1 }) hd (Nat.succ_le_succ hu) ha hda) B F X T hk N ⟨ha, rfl, rfl, hda⟩ (by k_is) (by k_is) (by k_is) (by k_is) (by k_is) (by k_is) h
theorem p_right (hd : dp ≤ 600) (hu : un ≤ 5999) (B : Below A₀ base outer h₀) (F : Fr h₀ L s.heap m) (X : (Mine.K0 w.params).In h₀) (T : Top Mine.Vw (looseW Mine.Vw [Str.ofString "Rectangle"]) mean mg mb h₀) (hk : cs.kind = .function) (N : News h₀ L s.heap news)
    (ha : s.heap.get? a = some (instObj 203 da)) (hda : s.heap.get? da = some (rd w.params ta tb tc td te x y wd ht tx ty tw th))
    (h : ∀ t h' tk', Fr h₀ L h' m → News h₀ L h' news → Q (.int (x + wd) t) { s with heap := h', toks := tk' }) :
    wpAny (model PySem.Challenge.rw_jb0029_01.row.prog w) (ktrTop dp un gd cn cs L aa ccd cl outer) (getAttr (.ref a) (Str.ofString "right") expr) Q E s :=
  pg (pur_right (s := { s with toks := s.toks + 1 }) hd (Nat.succ_le_succ hu) ha hda) B F X T hk N ⟨ha, rfl, rfl, hda⟩ (by k_is) (by k_is) (by k_is) (by k_is) (by k_is) (by k_is) h
end
end

-- P2r
theorem rs2 {M : Model} {A : Around} {env : Env} {E : Value → Shared → Prop} {Q : Flow → Shared → Prop} {s : Shared} (h : wpAny M A (execs [] env) Q E s) : wpAny M A (execs [] env) Q E s := by
  w_top off
  first | (walk1; done) | exact h

section
section
local macro_rules | `(tactic| k_all) => `(tactic| first | with_reducible assumption | (refine' List.forall_mem_cons.mpr ⟨?a, ?b⟩; (case a => assumption); (case b => k_all)))
variable {w : World} {dp un : Nat} {s : Shared} {x y wd ht : Int} {tx ty tw th : Tok}
variable {gd : Option (List Code)} {cn : Str} {cs : Scope} {L aa : Addr} {ccd : Value} {cl : List (Str × Addr)} {outer : List Env} {A₀ : Around} {base h₀ : Heap} {m : Str → Option Value} {mean : ExcName → Option Value} {mg mb : Str → Option Value} {news : List (Addr × Obj)} {Q E : Value → Shared → Prop}
set_option maxHeartbeats 1000000 in
/-- Rectangle(x, y, wd, ht) -/
theorem rect_c (hd : dp ≤ 500) (hu : un ≤ 5000) (B : Below A₀ base outer h₀) (F : Fr h₀ L s.heap m) (X : (Mine.K0 w.params).In h₀) (T : Top Mine.Vw (looseW Mine.Vw [Str.ofString "Rectangle"]) mean mg mb h₀) (hk : cs.kind = .function) (N : News h₀ L s.heap news) (z1 : 0 ≤ wd) (z2 : 0 ≤ ht)
    (h : ∀ x' d' ka kb kc kd ke h' tk', Fr h₀ L h' m → News h₀ L h' ((x', instObj 203 d') :: (d', rd w.params ka kb kc kd ke x y wd ht tx ty tw th) :: news) → (∀ p ∈ news, p.1 < d') → d' < x' → Q (.ref x') { s with heap := h', toks := tk' }) :
    wpAny (model PySem.Challenge.rw_jb0029_01.row.prog w) (ktrTop dp un gd cn cs L aa ccd cl outer) (call (.ref 203) [.int x tx, .int y ty, .int wd tw, .int ht th] []) Q E s := by
  obtain ⟨c1, c2, c3, c4, c5⟩ := cs
  dsimp only at hk
  subst hk
  refine call_cls F X N (by k_is) (by k_is) (by k_is) ?_
  intro x' d' h' F' N' l1 l2
  have ne1 : ∀ p ∈ news, p.1 ≠ d' := fun p hp => Nat.ne_of_lt (l1 p hp)
  have ne2 : ∀ p ∈ news, p.1 ≠ x' := fun p hp => Nat.ne_of_lt (Nat.lt_trans (l1 p hp) l2)
  have ne3 := Nat.ne_of_lt l2
  have ne4 := Ne.symm ne3
  clear N F
  k_enter
  k_steps
  exact h _ _ _ _ _ _ _ _ _ (by assumption) (by assumption) l1 l2
end
end

-- P2
local macro_rules | `(tactic| walk_at "m_prop") => `(tactic| ((case B => k_asm); (case F => k_asm); (case X => k_asm); (case T => k_asm); (case hk => first | exact rfl | assumption); (case N => k_asm); (case hd => walk_at "m_ple"); (case hu => walk_at "m_ple"); (case ha => first | walk_at "m_base" | walk_at "m_obj"); (case hda => first | walk_at "m_base" | walk_at "m_obj")))
local macro_rules | `(tactic| walk_at "m_ple") => `(tactic| first | omega | ((try simp only [depth_under_make, depth_under_kw, depth_in1, depth_deeper, depth_caller, units_in1, units_deeper, Around.mark_units, units_caller]); (try dsimp only [ktrTop]); first | omega | decide))
local macro_rules | `(tactic| walk_at "getAttr ref") => `(tactic| (k_here; k_dflt ((first | ((with_reducible show wpAny _ _ (getAttr _ (PySem.Str.ofString "bottom") _) _ _ _); refine' p_bottom ?hd ?hu ?B ?F ?X ?T ?hk ?N ?ha ?hda ?_) | ((with_reducible show wpAny _ _ (getAttr _ (PySem.Str.ofString "left") _) _ _ _); refine' p_left ?hd ?hu ?B ?F ?X ?T ?hk ?N ?ha ?hda ?_) | ((with_reducible show wpAny _ _ (getAttr _ (PySem.Str.ofString "top") _) _ _ _); refine' p_top ?hd ?hu ?B ?F ?X ?T ?hk ?N ?ha ?hda ?_) | ((with_reducible show wpAny _ _ (getAttr _ (PySem.Str.ofString "right") _) _ _ _); refine' p_right ?hd ?hu ?B ?F ?X ?T ?hk ?N ?ha ?hda ?_)); (walk_at "m_prop")); intro tn' h' tk' F' N'; (try dsimp only)))
theorem rs3 {M : Model} {A : Around} {env : Env} {E : Value → Shared → Prop} {Q : Flow → Shared → Prop} {s : Shared} (h : wpAny M A (execs [] env) Q E s) : wpAny M A (execs [] env) Q E s := by
  w_top off
  first | (walk1; done) | exact h

section
set_option maxHeartbeats 4000000 in
theorem contains_c {w : World} {dp un : Nat} {s : Shared} {a da b db : Addr} {ta tb tc td te ua ub uc ud ue : Tok} {x y wd ht x2 y2 w2 h2 : Int} {tx ty tw th ux uy uw uh : Tok} (hd : dp ≤ 500) (hu : un ≤ 5000)
    (ha : s.heap.get? a = some (instObj 203 da)) (hda : s.heap.get? da = some (rd w.params ta tb tc td te x y wd ht tx ty tw th))
    (hb : s.heap.get? b = some (instObj 203 db)) (hdb : s.heap.get? db = some (rd w.params ua ub uc ud ue x2 y2 w2 h2 ux uy uw uh)) :
    Pur w dp un 177 ⟨[.ref a, .ref b], []⟩ s (fun v _ => v = .bool (decide (y ≤ y2 ∧ x ≤ x2 ∧ y2 + h2 ≤ y + ht ∧ x2 + w2 ≤ x + wd))) := by
  intro mean mg mb gd cn cs aa ccd cl outer A₀ base h₀ L m R B F X T hk hret
  walk_at "m_enter"
  k_steps
  all_goals (walk_at "m_end"; (congr 1; rw [decide_eq_decide]; omega))

set_option maxHeartbeats 4000000 in
theorem inter_t {w : World} {dp un : Nat} {s : Shared} {a da b db : Addr} {ta tb tc td te ua ub uc ud ue : Tok} {x y wd ht x2 y2 w2 h2 : Int} {tx ty tw th ux uy uw uh : Tok} (hd : dp ≤ 500) (hu : un ≤ 5000)
    (ha : s.heap.get? a = some (instObj 203 da)) (hda : s.heap.get? da = some (rd w.params ta tb tc td te x y wd ht tx ty tw th))
    (hb : s.heap.get? b = some (instObj 203 db)) (hdb : s.heap.get? db = some (rd w.params ua ub uc ud ue x2 y2 w2 h2 ux uy uw uh)) :
    Pur w dp un 185 ⟨[.ref a, .ref b], [(Str.ofString "edges", .bool true)]⟩ s (fun v _ => v = .bool (decide (y ≤ y2 + h2 ∧ y2 ≤ y + ht ∧ x ≤ x2 + w2 ∧ x2 ≤ x + wd))) := by
  intro mean mg mb gd cn cs aa ccd cl outer A₀ base h₀ L m R B F X T hk hret
  walk_at "m_enter"
  k_steps
  all_goals (walk_at "m_end"; (congr 1; first | (symm; rw [decide_eq_true_eq]; omega) | (symm; rw [decide_eq_false_iff_not]; omega) | (rw [decide_eq_decide]; omega)))

set_option maxHeartbeats 4000000 in
theorem inter_f {w : World} {dp un : Nat} {s : Shared} {a da b db : Addr} {ta tb tc td te ua ub uc ud ue : Tok} {x y wd ht x2 y2 w2 h2 : Int} {tx ty tw th ux uy uw uh : Tok} (hd : dp ≤ 500) (hu : un ≤ 5000)
    (ha : s.heap.get? a = some (instObj 203 da)) (hda : s.heap.get? da = some (rd w.params ta tb tc td te x y wd ht tx ty tw th))
    (hb : s.heap.get? b = some (instObj 203 db)) (hdb : s.heap.get? db = some (rd w.params ua ub uc ud ue x2 y2 w2 h2 ux uy uw uh)) :
    Pur w dp un 185 ⟨[.ref a, .ref b], [(Str.ofString "edges", .bool false)]⟩ s (fun v _ => v = .bool (decide (y < y2 + h2 ∧ y2 < y + ht ∧ x < x2 + w2 ∧ x2 < x + wd))) := by
  intro mean mg mb gd cn cs aa ccd cl outer A₀ base h₀ L m R B F X T hk hret
  walk_at "m_enter"
  k_steps
  all_goals (walk_at "m_end"; (congr 1; first | (symm; rw [decide_eq_true_eq]; omega) | (symm; rw [decide_eq_false_iff_not]; omega) | (rw [decide_eq_decide]; omega)))

set_option maxHeartbeats 4000000 in
theorem inter_d {w : World} {dp un : Nat} {s : Shared} {a da b db : Addr} {ta tb tc td te ua ub uc ud ue : Tok} {x y wd ht x2 y2 w2 h2 : Int} {tx ty tw th ux uy uw uh : Tok} (hd : dp ≤ 500) (hu : un ≤ 5000)
    (ha : s.heap.get? a = some (instObj 203 da)) (hda : s.heap.get? da = some (rd w.params ta tb tc td te x y wd ht tx ty tw th))
    (hb : s.heap.get? b = some (instObj 203 db)) (hdb : s.heap.get? db = some (rd w.params ua ub uc ud ue x2 y2 w2 h2 ux uy uw uh)) :
    Pur w dp un 185 ⟨[.ref a, .ref b], []⟩ s (fun v _ => v = .bool (decide (y < y2 + h2 ∧ y2 < y + ht ∧ x < x2 + w2 ∧ x2 < x + wd))) := by
  intro mean mg mb gd cn cs aa ccd cl outer A₀ base h₀ L m R B F X T hk hret
  walk_at "m_enter"
  k_steps
  all_goals (walk_at "m_end"; (congr 1; first | (symm; rw [decide_eq_true_eq]; omega) | (symm; rw [decide_eq_false_iff_not]; omega) | (rw [decide_eq_decide]; omega)))
end

-- IT1
section
/-- a point's own dict -/
noncomputable abbrev pd (P : Params) (ta tb : Tok) (x y : Int) (tx ty : Tok) : Obj :=
  dictOf [⟨PyData.keyHash P (Str.ofString "x"), .str (Str.ofString "x") ta, .int x tx⟩, ⟨PyData.keyHash P (Str.ofString "y"), .str (Str.ofString "y") tb, .int y ty⟩] 2
/-- a point at a value -/
def PO (w : World) (h : Heap) (v : Value) (p : Int × Int) : Prop := ∃ T dT ta tb tx ty, v = .ref T ∧ h.get? T = some (instObj 52 dT) ∧ h.get? dT = some (pd w.params ta tb p.1 p.2 tx ty)
/-- a point made since g -/
def PON (w : World) (g h : Heap) (v : Value) (p : Int × Int) : Prop := ∃ T dT ta tb tx ty, v = .ref T ∧ g.get? T = none ∧ g.get? dT = none ∧ h.get? T = some (instObj 52 dT) ∧ h.get? dT = some (pd w.params ta tb p.1 p.2 tx ty)
/-- how a corner's expression ends in the iterator's frame L -/
structure CoEnd (w : World) (L : Addr) (u : Str → Option Value) (p : Int × Int) (s : Shared) (v : Value) (s' : Shared) : Prop where
  out : ∃ h tk, s' = { s with heap := h, toks := tk } ∧ KpB [L] s.heap h ∧ h.Ns L u ∧ PON w s.heap h v p
theorem co_end {w : World} {g : Heap} {C T dT : Addr} {u u' : Str → Option Value} {s₂ : Shared} {h : Heap} {tk : Nat} {p : Int × Int} {x y : Int} {ta tb tx ty : Tok} {news : List (Addr × Obj)} (F : Fr g C s₂.heap u') (W : ∀ b o, b ≠ C → g.get? b = none → s₂.heap.get? b = some o → (b, o) ∈ news)
    (F' : Fr g C h u) (N' : News g C h ((T, instObj 52 dT) :: (dT, pd w.params ta tb x y tx ty) :: news)) (lt : ∀ p ∈ news, p.1 < dT) (lt2 : dT < T) (ex : x = p.1) (ey : y = p.2) : CoEnd w C u p s₂ (.ref T) { s₂ with heap := h, toks := tk } := by
  subst ex ey
  have z1 := N' _ (.head _)
  have z2 := N' _ (.tail _ (.head _))
  exact ⟨⟨h, tk, rfl, whole_keeps (ex := [_, _]) F W F' N', F'.ns, T, dT, ta, tb, tx, ty, rfl, whole_fresh F W z1.2.1 z1.2.2 (fun q hq => Nat.lt_trans (lt q hq) lt2), whole_fresh F W z2.2.1 z2.2.2 lt, z1.1, z2.1⟩⟩
end

theorem rs4 {M : Model} {A : Around} {env : Env} {E : Value → Shared → Prop} {Q : Flow → Shared → Prop} {s : Shared} (h : wpAny M A (execs [] env) Q E s) : wpAny M A (execs [] env) Q E s := by
  w_top off
  first | (walk1; done) | exact h

section
section
variable {w : World} {dp un : Nat} {gd : Option (List Code)} {cn : Str} {L aa r dr : Addr} {ccd : Value} {outer : List Env} {A₀ : Around} {base g : Heap} {mean : ExcName → Option Value} {mg mb : Str → Option Value} {s : Shared} {E : Value → Shared → Prop}
  {ka kb kc kd ke tx ty tw th : Tok} {x y wd ht : Int}

set_option maxHeartbeats 400000 in
theorem corner_tl {mo : List (Str × Const)} {p1 p2 : Pos} (hd : dp ≤ 400) (hu : un ≤ 3000) (hb : Below A₀ base outer g) (X : (Mine.K0 w.params).In g) (T : Top Mine.Vw (looseW Mine.Vw [Str.ofString "Rectangle"]) mean mg mb g) (F : Fr g L s.heap (fun y => List.lookup y (List.reverse [(Str.ofString "self", Value.ref r)])))
    (hr : g.get? r = some (instObj 203 dr)) (hdr : g.get? dr = some (rd w.params ka kb kc kd ke x y wd ht tx ty tw th)) :
    wpAny (model PySem.Challenge.rw_jb0029_01.row.prog w) (ktrTop dp un gd cn ⟨.function, [(Str.ofString "self", .local)], true, false, mo⟩ L aa ccd [] outer) (eval (.Attribute (.Name (Str.ofString "self") p1) (Str.ofString "corner_top_l") p2) (envX cn ⟨.function, [(Str.ofString "self", .local)], true, false, mo⟩ L aa ccd []))
      (CoEnd w L (fun y => List.lookup y (List.reverse [(Str.ofString "self", Value.ref r)])) (x, y + ht) s) E s := by
  obtain ⟨news, N, W⟩ := whole F
  have fin := fun (T dT : Addr) (h : Heap) (tk : Nat) (x y : Int) (ta tb tx ty : Tok) p => @co_end w g L T dT (fun y => List.lookup y (List.reverse [(Str.ofString "self", Value.ref r)])) _ s h tk p x y ta tb tx ty news F W
  clear W
  refine cps ?_
  intro qz hqz
  k_steps
  refine' hqz _ _ (fin _ _ _ _ _ _ _ _ _ _ _ ?F ?N ?l1 ?l2 ?e1 ?e2)
  case F => with_reducible assumption
  case N => with_reducible assumption
  case l1 => with_reducible assumption
  case l2 => with_reducible assumption
  case e1 => rfl
  case e2 => rfl

set_option maxHeartbeats 400000 in
theorem corner_tr {mo : List (Str × Const)} {p1 p2 : Pos} (hd : dp ≤ 400) (hu : un ≤ 3000) (hb : Below A₀ base outer g) (X : (Mine.K0 w.params).In g) (T : Top Mine.Vw (looseW Mine.Vw [Str.ofString "Rectangle"]) mean mg mb g) (F : Fr g L s.heap (fun y => List.lookup y (List.reverse [(Str.ofString "self", Value.ref r)])))
    (hr : g.get? r = some (instObj 203 dr)) (hdr : g.get? dr = some (rd w.params ka kb kc kd ke x y wd ht tx ty tw th)) :
    wpAny (model PySem.Challenge.rw_jb0029_01.row.prog w) (ktrTop dp un gd cn ⟨.function, [(Str.ofString "self", .local)], true, false, mo⟩ L aa ccd [] outer) (eval (.Attribute (.Name (Str.ofString "self") p1) (Str.ofString "corner_top_r") p2) (envX cn ⟨.function, [(Str.ofString "self", .local)], true, false, mo⟩ L aa ccd []))
      (CoEnd w L (fun y => List.lookup y (List.reverse [(Str.ofString "self", Value.ref r)])) (x + wd, y + ht) s) E s := by
  obtain ⟨news, N, W⟩ := whole F
  have fin := fun (T dT : Addr) (h : Heap) (tk : Nat) (x y : Int) (ta tb tx ty : Tok) p => @co_end w g L T dT (fun y => List.lookup y (List.reverse [(Str.ofString "self", Value.ref r)])) _ s h tk p x y ta tb tx ty news F W
  clear W
  refine cps ?_
  intro qz hqz
  k_steps
  refine' hqz _ _ (fin _ _ _ _ _ _ _ _ _ _ _ ?F ?N ?l1 ?l2 ?e1 ?e2)
  case F => with_reducible assumption
  case N => with_reducible assumption
  case l1 => with_reducible assumption
  case l2 => with_reducible assumption
  case e1 => rfl
  case e2 => rfl

set_option maxHeartbeats 400000 in
theorem corner_br {mo : List (Str × Const)} {p1 p2 : Pos} (hd : dp ≤ 400) (hu : un ≤ 3000) (hb : Below A₀ base outer g) (X : (Mine.K0 w.params).In g) (T : Top Mine.Vw (looseW Mine.Vw [Str.ofString "Rectangle"]) mean mg mb g) (F : Fr g L s.heap (fun y => List.lookup y (List.reverse [(Str.ofString "self", Value.ref r)])))
    (hr : g.get? r = some (instObj 203 dr)) (hdr : g.get? dr = some (rd w.params ka kb kc kd ke x y wd ht tx ty tw th)) :
    wpAny (model PySem.Challenge.rw_jb0029_01.row.prog w) (ktrTop dp un gd cn ⟨.function, [(Str.ofString "self", .local)], true, false, mo⟩ L aa ccd [] outer) (eval (.Attribute (.Name (Str.ofString "self") p1) (Str.ofString "corner_bot_r") p2) (envX cn ⟨.function, [(Str.ofString "self", .local)], true, false, mo⟩ L aa ccd []))
      (CoEnd w L (fun y => List.lookup y (List.reverse [(Str.ofString "self", Value.ref r)])) (x + wd, y) s) E s := by
  obtain ⟨news, N, W⟩ := whole F
  have fin := fun (T dT : Addr) (h : Heap) (tk : Nat) (x y : Int) (ta tb tx ty : Tok) p => @co_end w g L T dT (fun y => List.lookup y (List.reverse [(Str.ofString "self", Value.ref r)])) _ s h tk p x y ta tb tx ty news F W
  clear W
  refine cps ?_
  intro qz hqz
  k_steps
  refine' hqz _ _ (fin _ _ _ _ _ _ _ _ _ _ _ ?F ?N ?l1 ?l2 ?e1 ?e2)
  case F => with_reducible assumption
  case N => with_reducible assumption
  case l1 => with_reducible assumption
  case l2 => with_reducible assumption
  case e1 => rfl
  case e2 => rfl

set_option maxHeartbeats 400000 in
theorem corner_bl {mo : List (Str × Const)} {p1 p2 : Pos} (hd : dp ≤ 400) (hu : un ≤ 3000) (hb : Below A₀ base outer g) (X : (Mine.K0 w.params).In g) (T : Top Mine.Vw (looseW Mine.Vw [Str.ofString "Rectangle"]) mean mg mb g) (F : Fr g L s.heap (fun y => List.lookup y (List.reverse [(Str.ofString "self", Value.ref r)])))
    (hr : g.get? r = some (instObj 203 dr)) (hdr : g.get? dr = some (rd w.params ka kb kc kd ke x y wd ht tx ty tw th)) :
    wpAny (model PySem.Challenge.rw_jb0029_01.row.prog w) (ktrTop dp un gd cn ⟨.function, [(Str.ofString "self", .local)], true, false, mo⟩ L aa ccd [] outer) (eval (.Attribute (.Name (Str.ofString "self") p1) (Str.ofString "corner_bot_l") p2) (envX cn ⟨.function, [(Str.ofString "self", .local)], true, false, mo⟩ L aa ccd []))
      (CoEnd w L (fun y => List.lookup y (List.reverse [(Str.ofString "self", Value.ref r)])) (x, y) s) E s := by
  obtain ⟨news, N, W⟩ := whole F
  have fin := fun (T dT : Addr) (h : Heap) (tk : Nat) (x y : Int) (ta tb tx ty : Tok) p => @co_end w g L T dT (fun y => List.lookup y (List.reverse [(Str.ofString "self", Value.ref r)])) _ s h tk p x y ta tb tx ty news F W
  clear W
  refine cps ?_
  intro qz hqz
  k_steps
  refine' hqz _ _ (fin _ _ _ _ _ _ _ _ _ _ _ ?F ?N ?l1 ?l2 ?e1 ?e2)
  case F => with_reducible assumption
  case N => with_reducible assumption
  case l1 => with_reducible assumption
  case l2 => with_reducible assumption
  case e1 => rfl
  case e2 => rfl
end
end

-- IT2
section
section
variable {prog : Program} {w : World} {A A₀ : Around} {s : Shared} {base h₀ : Heap} {outer : List Env} {L : Addr} {m : Str → Option Value} {env : Env} {K : Frag}
  {p : Program} {loose : List Str} {mean : ExcName → Option Value} {mg mb : Str → Option Value}
  {R : Result → Shared → Prop} {name qual : Str} {params : Arguments} {body : List Stmt} {scope : Scope} {dV kV doc pm cdv ct oc : Value} {an od : Option Addr} {osl : Array (Option Value)} {f : Addr} {args : Args} {binds : List (Str × Value)}

/-- a generator's def called: its object is made, its body waits -/
theorem code_gen (F : Fr h₀ L s.heap m) (X₀ : K.In h₀) (T : Top p loose mean mg mb h₀)
    (ho : K.lookup f = some ⟨oc, od, .func (fnOf name qual params body scope dV kV doc pm an cdv ct), osl⟩) (hcd : codeIn K cdv qual = true) (hroom : A.depth < recursionLimit)
    (hbind : BindsTo s (fnOf name qual params body scope dV kV doc pm an cdv ct) args binds) (hloc : ∀ y ∈ binds, scope.names.lookup y.1 = some .local)
    (h : ∀ h₂ tk, h₂.Ns s.heap.objs.size (fun y => binds.reverse.lookup y) → Kp s.heap h₂ → ∀ G, s.heap.objs.size < G → h₂.objs.size = G + 1 → h₂.IsGen G s.gens.size →
      R (.ok (.ret (.ref G))) { s with heap := h₂, toks := tk, gens := s.gens.push (.fresh (.func body (envOf qual scope s.heap.objs.size f cdv))) })
    (hco : scope.isCoroutine = false) (hgen : scope.isGenerator = true) (hk : scope.kind = .function)
    (hcell : ∀ x ∈ scope.names, x.2 ≠ .cell) : codeAny (model prog w) A (.call (.ref f) args) R s := by
  have X := X₀.keeps F.keep
  have TL := T.nolimit.keeps F.keep
  refine codeAny_call_generator (fd := fnOf name qual params body scope dV kV doc pm an cdv ct) (body := body) hroom (X _ _ ho) rfl hco hgen rfl (codeRec_of X hcd) (hbind _ _ _ _ ?_)
  refine wpAny_newFunctionEnv hcell hloc (fun h₁ hns₁ hsb₁ => ⟨TL.fresh _ hsb₁, ?_⟩) hk
  have z : h₁.objs.size = s.heap.objs.size + 1 := by rw [hsb₁.1, Heap.size_push]
  have k₁ : Kp s.heap h₁ := fun b o e => hsb₁.extBut b o (Nat.ne_of_lt (Heap.lt_size e)) (Heap.get?_push_of_some _ e)
  refine h _ _ (hns₁.push _) (fun b o e => Heap.get?_push_of_some _ (k₁ b o e)) h₁.objs.size (by rw [z]; exact Nat.lt_succ_self _) (by rw [Heap.size_push]) ⟨_, _, _, Heap.get?_push_size _ rfl, rfl, rfl, rfl⟩
end

/-- what passes between the iterator and whoever asks -/
def CoProto (w : World) (g : Heap) (Lg : Addr) (u : Str → Option Value) (pts : List (Int × Int)) : Protocol := fun m s₀ v s kap =>
  (∃ p, pts[pts.length - 1 - m]? = some p ∧ CoEnd w Lg u p s₀ v s) ∧ ∀ s'' : Shared, Fr g Lg s''.heap u → kap (.send .none) s''
abbrev coEnd : GenEnd := fun n s₀ r s₁ => r = .ok (.ret .none) ∧ (n = 0 ∧ s₁ = s₀)

/-- the iterator stands ready, i corners given -/
def GenRdy (prog : Program) (w : World) (A : Around) (g : Heap) (Lg : Addr) (u : Str → Option Value) (pts : List (Int × Int)) (G : Addr) (gi i : Nat) (s : Shared) : Prop :=
  s.heap.IsGen G gi ∧ ∃ gs, s.gens[gi]? = some gs ∧ ∀ s'' : Shared, Fr g Lg s''.heap u → gs.Goes (model prog w) A.in1 coEnd (CoProto w g Lg u pts) (pts.length - i) (.send .none) s''

theorem bare_set {gs : Array GenState} {i : Nat} {x : GenState} (h : AllBare gs) (hx : x.bare = true) : AllBare (gs.setIfInBounds i x) := by
  intro y hy
  rcases Array.mem_or_eq_of_mem_setIfInBounds hy with e | e
  · exact h y e
  · rw [e]; exact hx
theorem bare_push {gs : Array GenState} {x : GenState} (h : AllBare gs) (hx : x.bare = true) : AllBare (gs.push x) := by
  intro y hy
  rcases Array.mem_push.mp hy with e | e
  · exact h y e
  · rw [e]; exact hx

section
variable {prog : Program} {w : World} {A : Around} {E : Value → Shared → Prop} {s : Shared}

/-- the next of a generator that is a def's, its state told to be without a cleanup -/
theorem next_def {a : Addr} {g n : Nat} {gs : GenState} {P : Nat → Shared → Shared → Prop} {Y : Protocol} {Q : Option Value → Shared → Prop} (hh : A.handled = none)
    (hl : s.heap.NoLimit) (hroom : A.depth < recursionLimit) (hg : s.heap.IsGen a g) (hgs : s.gens[g]? = some gs)
    (hgo : gs.Goes (model prog w) A.in1 (fun n s₀ r s₁ => r = .ok (.ret .none) ∧ P n s₀ s₁) Y n (.send .none) (s.setGen g .running))
    (hY : ∀ v s₁ gs', gs'.bare = true → Y (n - 1) (s.setGen g .running) v s₁ (fun r' s'' => match n with
        | 0 => False
        | m + 1 => gs'.Goes (model prog w) A.in1 (fun n s₀ r s₁ => r = .ok (.ret .none) ∧ P n s₀ s₁) Y m r' s'') → Q (some v) (s₁.setGen g gs'))
    (hP : ∀ s₁, P n (s.setGen g .running) s₁ → ∀ h', Kp s₁.heap h' → Q none { s₁.setGen g .finished with heap := h' }) :
    wpAny (model prog w) A (pyNext (.ref a)) Q E s := by
  unfold pyNext
  refine wpAny_bind (wpAny_attempt (wpAny_callSpecial?_slot (name := Str.ofString "__next__") hg.typeIs slot_gen_next (wpAny_call_entry slot_gen_next hg.typeIs entry_gen_next ?_ (args_gen_next _))))
  show wpAny _ A.in1 (Builtin.Generator.genWake (.ref a) (.send .none)) _ _ s
  unfold Builtin.Generator.genWake
  refine wpAny_bind (wpAny_holding (wpAny_genNumber hg (wpAny_bind (wpAny_genState hgs ?_))))
  cases gs with
  | running => exact hgo.elim
  | finished => exact hgo.elim
  | _ =>
    refine wpAny_bind (wpAny_roomToWake hl hroom ?_)
    show wpAny _ A.in1 (.resume g (.send .none) [] _) _ _ s
    refine wpAny_resumeQ hgs hgo (fun x s₁ hx => ?_) (fun v s₁ gs' hb hv => ?_)
    · obtain ⟨rfl, hp⟩ := hx
      show wpAny _ A.in1 (newExc (.type "StopIteration") [] >>= _) _ _ _
      refine wpAny_bind ?_
      simp only [newExc, newTuple]
      refine wpAny_bind (wpAny_newObj_type ?_ (by size_fits))
      refine wpAny_bind (m := firstArgMember _ _) (wpAny_of_eq (a := Value.none) (by first | rfl | (simp only [firstArgMember]; rfl)) ?_)
      refine wpAny_newObj_type ?_ (by size_fits)
      simp only [raiseNew]
      refine wpAny_bind (wpAny_bind (wpAny_handled ?_))
      first | rw [show A.in1.handled = none from hh] | rw [hh]
      refine wpAny_throw ?_
      refine wpAny_bind (wpAny_isInstance (T := "StopIteration") (b := true) ⟨_, Heap.get?_push_size _ rfl, rfl⟩ isSubtype_stop ?_)
      exact wpAny_pure (hP s₁ hp _ fun b o hb => Heap.get?_push_of_some _ (Heap.get?_push_of_some _ hb))
    · exact wpAny_pure ⟨v, rfl, wpAny_pure (hY v s₁ gs' hb hv)⟩

theorem setGen_twice (s : Shared) (g : Nat) (x y : GenState) (h : Heap) (tk : Nat) : (({ (s.setGen g x) with heap := h, toks := tk } : Shared).setGen g y) = { s with heap := h, toks := tk, gens := (s.gens.setIfInBounds g x).setIfInBounds g y } := rfl

variable {g : Heap} {Lg : Addr} {u : Str → Option Value} {pts : List (Int × Int)} {G : Addr} {gi i : Nat}
theorem gen_next {Q : Option Value → Shared → Prop} (hh : A.handled = none) (hl : s.heap.NoLimit) (hroom : A.depth < recursionLimit) (hF : Fr g Lg s.heap u) (hGL : G ≠ Lg) (rdy : GenRdy prog w A g Lg u pts G gi i s) (hb : AllBare s.gens) {p : Int × Int} (hi : pts[i]? = some p)
    (h : ∀ v h' tk g', PON w s.heap h' v p → KpB [Lg] s.heap h' → h'.Ns Lg u → AllBare g' → GenRdy prog w A g Lg u pts G gi (i + 1) { s with heap := h', toks := tk, gens := g' } → Q (some v) { s with heap := h', toks := tk, gens := g' }) :
    wpAny (model prog w) A (pyNext (.ref G)) Q E s := by
  obtain ⟨hg, gs, hgs, hgo⟩ := rdy
  have hlt : i < pts.length := (List.getElem?_eq_some_iff.mp hi).1
  obtain ⟨m, hm⟩ : ∃ m, pts.length - i = m + 1 := ⟨pts.length - i - 1, by omega⟩
  rw [hm] at hgo
  refine next_def (P := fun n s₀ s₁ => n = 0 ∧ s₁ = s₀) hh hl hroom hg hgs (hgo _ hF) (fun v s₁ gs' hbg hv => ?_) (fun s₁ hp h' hk => ?_)
  · obtain ⟨⟨q, hq, ⟨⟨h₁, tk₁, rfl, hk₁, hn₁, hpo⟩⟩⟩, hkap⟩ := hv
    have hidx : pts.length - 1 - (m + 1 - 1) = i := by omega
    rw [hidx, hi] at hq
    cases hq
    rw [setGen_twice]
    have hb1 : AllBare (s.gens.setIfInBounds gi .running) := bare_set hb rfl
    have hgi : gi < s.gens.size := (Array.getElem?_eq_some_iff.mp hgs).1
    refine h v h₁ tk₁ _ hpo hk₁ hn₁ (bare_set hb1 hbg) ⟨?_, gs', ?_, fun s'' F'' => ?_⟩
    · obtain ⟨o, nm, qn, ho, r⟩ := hg
      exact ⟨o, nm, qn, hk₁ G o (by simpa using hGL) ho, r⟩
    · simp [hgi]
    · have e : pts.length - (i + 1) = m := by omega
      rw [e]
      exact hkap s'' F''
  · exact absurd hp.1 (Nat.succ_ne_zero m)
theorem gen_stop {Q : Option Value → Shared → Prop} (hh : A.handled = none) (hl : s.heap.NoLimit) (hroom : A.depth < recursionLimit) (hF : Fr g Lg s.heap u) (rdy : GenRdy prog w A g Lg u pts G gi pts.length s) (hb : AllBare s.gens)
    (h : ∀ h' g', Kp s.heap h' → AllBare g' → Q none { s with heap := h', gens := g' }) :
    wpAny (model prog w) A (pyNext (.ref G)) Q E s := by
  obtain ⟨hg, gs, hgs, hgo⟩ := rdy
  rw [Nat.sub_self] at hgo
  refine next_def (P := fun n s₀ s₁ => n = 0 ∧ s₁ = s₀) hh hl hroom hg hgs (hgo _ hF) (fun v s₁ gs' hbg hv => ?_) (fun s₁ hp h' hk => ?_)
  · obtain ⟨_, hkap⟩ := hv
    exact False.elim (hkap { s with heap := s.heap } hF)
  · obtain ⟨_, rfl⟩ := hp
    exact h h' _ hk (bare_set (bare_set hb rfl) rfl)
end

section
variable {w : World} {dp un : Nat} {gd : Option (List Code)} {cn : Str} {L aa r dr : Addr} {ccd : Value} {outer : List Env} {A A₀ : Around} {base g : Heap} {mean : ExcName → Option Value} {mg mb : Str → Option Value} {s : Shared} {E : Value → Shared → Prop}
  {ka kb kc kd ke tx ty tw th : Tok} {x y wd ht : Int}

/-- the iterator's body, corner by corner -/
theorem gen_seg {mo : List (Str × Const)} {a1 a2 a3 a4 b1 b2 b3 b4 c1 c2 c3 c4 d1 d2 d3 d4 : Pos} {body : List Stmt} {env : Env}
    (hbody : body = [.Expr (.Yield (some (.Attribute (.Name (Str.ofString "self") a1) (Str.ofString "corner_top_l") a2)) a3) a4, .Expr (.Yield (some (.Attribute (.Name (Str.ofString "self") b1) (Str.ofString "corner_top_r") b2)) b3) b4,
      .Expr (.Yield (some (.Attribute (.Name (Str.ofString "self") c1) (Str.ofString "corner_bot_r") c2)) c3) c4, .Expr (.Yield (some (.Attribute (.Name (Str.ofString "self") d1) (Str.ofString "corner_bot_l") d2)) d3) d4])
    (henv : env = envX cn ⟨.function, [(Str.ofString "self", .local)], true, false, mo⟩ L aa ccd [])
    (hA : A.over (.func body env) [] = ktrTop dp un gd cn ⟨.function, [(Str.ofString "self", .local)], true, false, mo⟩ L aa ccd [] outer)
    (hd : dp ≤ 400) (hu : un ≤ 3000) (hb : Below A₀ base outer g) (X : (Mine.K0 w.params).In g) (T : Top Mine.Vw (looseW Mine.Vw [Str.ofString "Rectangle"]) mean mg mb g) (F : Fr g L s.heap (fun y => List.lookup y (List.reverse [(Str.ofString "self", Value.ref r)])))
    (hr : g.get? r = some (instObj 203 dr)) (hdr : g.get? dr = some (rd w.params ka kb kc kd ke x y wd ht tx ty tw th)) :
    Seg (model PySem.Challenge.rw_jb0029_01.row.prog w) A coEnd (CoProto w g L (fun y => List.lookup y (List.reverse [(Str.ofString "self", Value.ref r)])) [(x, y + ht), (x + wd, y + ht), (x + wd, y), (x, y)]) 4 s (.func body env) ((model PySem.Challenge.rw_jb0029_01.row.prog w).den (.func body env)) [] s := by
  refine seg_func ?_
  generalize hc : Code.func body env = c at hA ⊢
  subst hbody henv
  refine seg_execs_cons (seg_Expr_Yield rfl rfl rfl ?_)
  rw [hA]
  refine wpAny_mono (corner_tl hd hu hb X T F hr hdr) (fun v s' hv kap hkap => ⟨⟨_, rfl, hv⟩, fun s₁ F₁ => hkap .none s₁ ?_⟩) fun _ _ e => e
  refine seg_execs_cons (seg_Expr_Yield rfl rfl rfl ?_)
  rw [hA]
  refine wpAny_mono (corner_tr hd hu hb X T F₁ hr hdr) (fun v s' hv kap hkap => ⟨⟨_, rfl, hv⟩, fun s₂ F₂ => hkap .none s₂ ?_⟩) fun _ _ e => e
  refine seg_execs_cons (seg_Expr_Yield rfl rfl rfl ?_)
  rw [hA]
  refine wpAny_mono (corner_br hd hu hb X T F₂ hr hdr) (fun v s' hv kap hkap => ⟨⟨_, rfl, hv⟩, fun s₃ F₃ => hkap .none s₃ ?_⟩) fun _ _ e => e
  refine seg_execs_cons (seg_Expr_Yield rfl rfl rfl ?_)
  rw [hA]
  refine wpAny_mono (corner_bl hd hu hb X T F₃ hr hdr) (fun v s' hv kap hkap => ⟨⟨_, rfl, hv⟩, fun s₄ F₄ => hkap .none s₄ ?_⟩) fun _ _ e => e
  refine seg_execs_nil ?_
  exact seg_end (.ok (.ret .none)) ⟨rfl, rfl, rfl⟩
end
end

-- IT3
section
theorem fr_kpb {g h h' : Heap} {ws : List Addr} {L : Addr} {u : Str → Option Value} (F : Fr g L h u) (K : KpB ws h h') (hw : ∀ a ∈ ws, g.get? a = none) (hn : h'.Ns L u) : Fr g L h' u :=
  ⟨hn, fun b o e => K b o (fun q => by rw [hw b q] at e; cases e) (F.keep b o e), F.above⟩
theorem ptN_is {base h : Heap} {ws : List Addr} {y : Value} {p : Int × Int} (x : PtN base ws h y p) : PtIs h y p := by
  obtain ⟨T, ti, tj, e, _, _, hT⟩ := x
  exact ⟨T, ti, tj, e, hT⟩
theorem isGen_kpb {h h' : Heap} {ws : List Addr} {G gi : Nat} (x : h.IsGen G gi) (K : KpB ws h h') (hG : G ∉ ws) : h'.IsGen G gi := by
  obtain ⟨o, nm, qn, ho, r⟩ := x
  exact ⟨o, nm, qn, K G o hG ho, r⟩

section
variable {prog : Program} {w : World} {A : Around} {R : Result → Shared → Prop} {s : Shared} {g : Heap} {Lg : Addr} {u0 : Str → Option Value} {pts : List (Int × Int)} {G : Addr} {gi : Nat}

theorem it_loop {elt iter : Expr} {x : Str} {px : Pos} {scope : Scope} {pos : Pos} {D : Addr} {cenv : Env} {m : Str → Option Value}
    (hh : A.handled = none) (hroom : A.depth < recursionLimit) (hl : g.NoLimit) (hx : cenv.kindOf x = some .local)
    (hp : (cenv.scope.kind == .class || (cenv.scope.kind == .module && cenv.locals != cenv.globals)) = false)
    (hDC : D ≠ cenv.locals) (hDL : D ≠ Lg) (hCL : cenv.locals ≠ Lg) (hGC : G ≠ cenv.locals) (hGD : G ≠ D) (hGL : G ≠ Lg) (gC : g.get? cenv.locals = none) (gD : g.get? D = none)
    (F : Fr g Lg s.heap u0) (hacc : s.heap.IsList D #[]) (hn : s.heap.Ns cenv.locals m) (rdy : GenRdy prog w A g Lg u0 pts G gi 0 s) (hb : AllBare s.gens) (hsz : pts.length ≤ sizeLine)
    (helt : ∀ T dT ta tb tx ty (p : Int × Int) s₂ u E', T ≠ cenv.locals → dT ≠ cenv.locals → g.get? T = none → g.get? dT = none → s₂.heap.get? T = some (instObj 52 dT) → s₂.heap.get? dT = some (pd w.params ta tb p.1 p.2 tx ty) → s₂.heap.Ns cenv.locals u → u x = some (.ref T) → Kp g s₂.heap → wpAny (model prog w) A (eval elt cenv) (ElEnd cenv.locals u p.1 p.2 s₂) E' s₂)
    (hR : ∀ h' tk g' m' zs, h'.Ns cenv.locals m' → h'.IsList D zs → Paired (PtIs h') zs.toList pts → KpB [cenv.locals, Lg, D] s.heap h' → AllBare g' → R (.ok .next) { s with heap := h', toks := tk, gens := g' }) :
    codeAny (model prog w) A (.compLoop (.ListComp elt [⟨.Name x px, iter, [], 0⟩] scope pos) 0 (.ref G) (.ref D) cenv) R s := by
  have gL : g.get? Lg = none := by
    cases e : g.get? Lg with
    | none => rfl
    | some o => exact absurd (Nat.lt_of_lt_of_le (Heap.lt_size e) F.above) (Nat.lt_irrefl _)
  refine codeAny_compLoop_tests
    (fun k s' => ∃ h' tk g' m' zs i, s' = { s with heap := h', toks := tk, gens := g' } ∧ GenRdy prog w A g Lg u0 pts G gi i { s with heap := h', toks := tk, gens := g' } ∧ Fr g Lg h' u0 ∧ h'.IsList D zs ∧ h'.Ns cenv.locals m' ∧
      Paired (PtN s.heap [cenv.locals, Lg, D] h') zs.toList (pts.take i) ∧ i ≤ pts.length ∧ k = pts.length + 1 - i ∧ KpB [cenv.locals, Lg, D] s.heap h' ∧ AllBare g') ?_ (pts.length + 1)
    ⟨s.heap, s.toks, s.gens, m, #[], 0, rfl, rdy, F, hacc, hn, by simpa using Paired.nil, Nat.zero_le _, rfl, KpB.refl _ _, hb⟩
  rintro k s' ⟨H, tk, g', m', zs, i, rfl, rdy', F', hacc', hn', hF, hi, rfl, hk, hb'⟩
  have off : ∀ {q c : Addr}, q ≠ c → q ∉ [c] := fun hp hm => hp (List.mem_singleton.mp hm)
  have hlH : H.NoLimit := hl.keeps F'.keep
  cases hv : pts[i]? with
  | none =>
    have hle : i = pts.length := by
      have : pts.length ≤ i := by simpa using hv
      omega
    subst hle
    refine gen_stop hh hlH hroom F' rdy' hb' fun h₁ g₁ k₁ b₁ => ?_
    rw [List.take_length] at hF
    exact hR h₁ tk g₁ m' zs (hn'.keeps k₁) (hacc'.at fun o e => k₁ _ o e) (hF.mono fun _ _ hy => ptN_is (hy.keep (KpB.of k₁))) (hk.trans (KpB.of k₁)) b₁
  | some p =>
    have hlt : i < pts.length := (List.getElem?_eq_some_iff.mp hv).1
    refine gen_next hh hlH hroom F' hGL rdy' hb' hv fun v h₁ tk₁ g₁ po₁ k₁ n₁ b₁ rdy₁ => ?_
    have hn₁ : h₁.Ns cenv.locals m' := hn'.at' fun o e => k₁ _ o (off hCL) e
    refine wpAny_assign_Name (wpAny_storeName_local hx hn₁ (fun h₂ hn₂ hs₂ => ?_) hp)
    simp only [List.forIn_nil]
    refine wpAny_pure ?_
    simp only [if_true]
    have k₂ : KpB [cenv.locals, Lg, D] h₁ h₂ := KpB.but hs₂ (by simp)
    have k₁' : KpB [cenv.locals, Lg, D] H h₁ := k₁.more (by simp)
    have F₁ : Fr g Lg h₁ u0 := fr_kpb F' k₁ (by simpa using gL) n₁
    have F₂ : Fr g Lg h₂ u0 := fr_kpb F₁ (ws := [cenv.locals]) (KpB.but hs₂ (by simp)) (by simpa using gC) (n₁.sameBut hs₂ (Ne.symm hCL))
    obtain ⟨T, dT, ta, tb, t1, t2, rfl, fT, fd, hT, hd⟩ := po₁
    obtain ⟨oC, es, ep, hoC, hdC, _⟩ := id hn'
    have nT := ne_of_none_some fT hoC
    have nd := ne_of_none_some fd hoC
    have gnone : ∀ q, H.get? q = none → g.get? q = none := fun q e => none_of (ws := []) (KpB.of F'.keep) List.not_mem_nil e
    refine wpAny_mono (helt T dT ta tb t1 t2 p _ _ _ nT nd (gnone _ fT) (gnone _ fd) (hs₂.extBut T _ nT hT) (hs₂.extBut dT _ nd hd) hn₂ (by simp) F₂.keep) (fun y s₃ h₃ => ?_) fun _ _ e => e
    clear hT hd fT fd nT nd
    obtain ⟨⟨T, ti, tj, h₃, tk₃, rfl, rfl, hTn, hT, hk₃, hn₃⟩⟩ := h₃
    try dsimp only at hTn hT hk₃ hn₃ ⊢
    have hTw : T ∉ [cenv.locals, Lg, D] := by
      have n1 : T ≠ cenv.locals := by obtain ⟨_, _, _, ho, _⟩ := hn₂; exact ne_of_none_some hTn ho
      have n2 : T ≠ Lg := by obtain ⟨_, _, _, ho, _⟩ := F₂.ns; exact ne_of_none_some hTn ho
      have n3 : T ≠ D := by
        obtain ⟨_, ho, _⟩ := (hacc'.at fun o e => k₁ _ o (off hDL) e).extBut hs₂.extBut hDC
        exact ne_of_none_some hTn ho
      simp [n1, n2, n3]
    have hTb : s.heap.get? T = none := none_of (hk.trans (k₁'.trans k₂)) hTw hTn
    have hacc₃ : h₃.IsList D zs := ((hacc'.at fun o e => k₁ _ o (off hDL) e).extBut hs₂.extBut hDC).at fun o e => hk₃ _ o (off hDC) e
    have F₃ : Fr g Lg h₃ u0 := fr_kpb F₂ hk₃ (by simpa using gC) (F₂.ns.at' fun o e => hk₃ _ o (off (Ne.symm hCL)) e)
    have hzs : zs.size ≤ sizeLine := by
      have e1 := hF.length
      have e3 : (pts.take i).length ≤ pts.length := by rw [List.length_take]; omega
      have e4 : zs.toList.length = zs.size := by simp
      omega
    refine wpAny_list_append (hsz := hzs) hacc₃ fun h₄ hl₄ hs₄ => ?_
    have k₄ : KpB [cenv.locals, Lg, D] h₃ h₄ := KpB.but hs₄ (by simp)
    have kk : KpB [cenv.locals, Lg, D] H h₄ := k₁'.trans (k₂.trans ((hk₃.more (by simp)).trans k₄))
    have F₄ : Fr g Lg h₄ u0 := fr_kpb F₃ (ws := [D]) (KpB.but hs₄ (by simp)) (by simpa using gD) (F₃.ns.sameBut hs₄ (Ne.symm hDL))
    refine ⟨pts.length + 1 - (i + 1), by omega, h₄, tk₃, g₁, _, zs.push (.ref T), i + 1, rfl, ?_, F₄, hl₄, hn₃.sameBut hs₄ (Ne.symm hDC), ?_, hlt, rfl, hk.trans kk, b₁⟩
    · refine ⟨isGen_kpb rdy₁.1 (k₂.trans ((hk₃.more (by simp)).trans k₄)) (by simp [hGC, hGL, hGD]), rdy₁.2⟩
    · rw [List.take_add_one, hv, Array.toList_push]
      refine Paired.snoc (hF.mono fun _ _ hy => hy.keep kk) ⟨T, ti, tj, rfl, hTw, hTb, ?_⟩
      exact isTuple_keep hT fun o e => k₄ T o hTw e
end
end

-- P3
theorem rs5 {M : Model} {A : Around} {env : Env} {E : Value → Shared → Prop} {Q : Flow → Shared → Prop} {s : Shared} (h : wpAny M A (execs [] env) Q E s) : wpAny M A (execs [] env) Q E s := by
  w_top off
  first | (walk1; done) | exact h

section
def grid (p q p' q' : Nat) : List (Int × Int) := (List.range (2 * q + 1 - 2 * p)).flatMap fun (i : Nat) => (List.range (2 * q' + 1 - 2 * p')).map fun (k : Nat) => (2 * (p : Int) + (i : Int), 2 * (p' : Int) + (k : Int))

local macro_rules | `(tactic| walk_at "eval ListComp") => `(tactic| (k_dflt (refine' nest_comp (cl := [(Str.ofString "y", ?c1), (Str.ofString "rows", ?c2), (Str.ofString "h", ?c3)]) ?hh ?hclos ?hcell ?hkind ?hnames ?hx ?hy ?hxy ?_; (case hh => exact rfl); (case hclos => exact rfl); (case hcell => decide); (case hkind => exact rfl); (case hnames => decide); (case hx => exact rfl); (case hy => exact rfl); (case hxy => decide)); refine cps ?_; intro qz hqz))
local macro_rules | `(tactic| walk_at "getMethod ref") => `(tactic| (k_here; (with_reducible show wpAny _ _ (getMethod (Value.ref _) (Str.ofString "index") _) _ _ _); k_dflt (refine' methP ?F ?l PySem.F.slot_list_index PySem.F.type_list_index ?_; (case F => k_asm); (case l => with_reducible assumption))))
local macro_rules | `(tactic| walk_at "call builtin:list.index") => `(tactic| (k_here; (with_reducible show wpAny _ _ (call (Value.builtin _) [Value.ref _, Value.int _ _]) _ _ _); k_dflt (refine' indexP ?F ?l ?i ?y ?k ?_; (case F => k_asm); (case l => with_reducible assumption); (case i => with_reducible assumption); (case y => with_reducible assumption); (case k => with_reducible assumption)); intro j' hj'))
theorem cell_of {h : Heap} {a : Addr} {o : Obj} {v : Option Value} (e : h.get? a = some o) (d : o.data = .cell v) : ∃ o, h.get? a = some o ∧ o.data = .cell v := ⟨o, e, d⟩

theorem rng {p q : Nat} (hp : p ≤ 4) (hq : q ≤ 4) (h : p ≤ q) : Builtin.Range.small (2 * (p : Int)) (2 * (q : Int) + 1) 1 = true ∧ Builtin.Range.rangeSize (2 * (p : Int)) (2 * (q : Int) + 1) 1 = ((2 * q + 1 - 2 * p : Nat) : Int) := by
  have e1 : p = 0 ∨ p = 1 ∨ p = 2 ∨ p = 3 ∨ p = 4 := by omega
  have e2 : q = 0 ∨ q = 1 ∨ q = 2 ∨ q = 3 ∨ q = 4 := by omega
  rcases e1 with rfl | rfl | rfl | rfl | rfl <;> rcases e2 with rfl | rfl | rfl | rfl | rfl <;> first | (exfalso; omega) | decide

set_option maxHeartbeats 400000 in
theorem points_c {w : World} {dp un : Nat} {s : Shared} {lc lr : Addr} {cvs rvs : List Value} {nc nr : Nat} {cols rows : List Int} {x y wd ht : Int} {tx ty tw th : Tok} (hd : dp ≤ 500) (hu : un ≤ 5000)
    (hlc : s.heap.get? lc = some (listOf cvs.toArray nc)) (hic : IntsAre cvs cols) (hlr : s.heap.get? lr = some (listOf rvs.toArray nr)) (hir : IntsAre rvs rows)
    (hnc : cols.length ≤ 4) (hnr : rows.length ≤ 4)
    (mx : x ∈ cols) (mxw : x + wd ∈ cols) (my : y ∈ rows) (myh : y + ht ∈ rows) (ox : cols.idxOf x ≤ cols.idxOf (x + wd)) (oy : rows.idxOf y ≤ rows.idxOf (y + ht)) :
    Pur w dp un 233 ⟨[.ref lc, .ref lr, .int x tx, .int y ty, .int wd tw, .int ht th], []⟩ s (fun v h => ∃ l ys, v = .ref l ∧ s.heap.get? l = none ∧ h.IsList l ys ∧
      Paired (PtIs h) ys.toList (grid (cols.idxOf x) (cols.idxOf (x + wd)) (rows.idxOf y) (rows.idxOf (y + ht)))) := by
  intro mean mg mb gd cn cs aa ccd cl outer A₀ base h₀ L m R B F X T hk hret
  walk_at "m_enterC"
  rename_i d1 d2 d3 N0
  have q1 := d1.trans (show _ = Data.cell (some (.int ht th)) from rfl)
  have q2 := d2.trans (show _ = Data.cell (some (.int y ty)) from rfl)
  have q3 := d3.trans (show _ = Data.cell (some (.ref lr)) from rfl)
  clear d1 d2 d3
  k_steps
  (rename (IsRange _ _ _ _ _ _ _ _) => hR); (rename (_ = List.idxOf x cols) => hj1); (rename (_ = List.idxOf (x + wd) cols) => hj2)
  obtain ⟨r1, r2⟩ := rng (p := List.idxOf x cols) (q := List.idxOf (x + wd) cols) (by have := List.idxOf_le_length (a := x) (l := cols); omega) (by have := List.idxOf_le_length (a := x + wd) (l := cols); omega) ox
  obtain ⟨r3, r4⟩ := rng (p := List.idxOf y rows) (q := List.idxOf (y + ht) rows) (by have := List.idxOf_le_length (a := y) (l := rows); omega) (by have := List.idxOf_le_length (a := y + ht) (l := rows); omega) oy
  rw [hj1, hj2] at hR
  have hcl : List.idxOf x cols ≤ 4 ∧ List.idxOf (x + wd) cols ≤ 4 ∧ List.idxOf y rows ≤ 4 ∧ List.idxOf (y + ht) rows ≤ 4 := by
    have a1 := List.idxOf_le_length (a := x) (l := cols)
    have a2 := List.idxOf_le_length (a := x + wd) (l := cols)
    have a3 := List.idxOf_le_length (a := y) (l := rows)
    have a4 := List.idxOf_le_length (a := y + ht) (l := rows)
    omega
  with_reducible rename Fr s.heap _ _ _ => F1
  with_reducible rename News s.heap _ _ _ => N1
  have e1 := (N1 _ (.head _)).1
  have e2 := (N1 _ (.tail _ (.head _))).1
  have e3 := (N1 _ (.tail _ (.tail _ (.head _)))).1
  have hlr1 := F1.keep _ _ hlr
  have X1 := Frag.In.keeps (by assumption) F1.keep
  have T1 := Top.keeps (by assumption) F1.keep
  dsimp only at e1 e2 e3 hlr1
  with_reducible rename (∀ v s', NestSrc _ _ _ _ _ _ _ _ _ _ _ v s' → _) => hqz
  refine hqz _ _ ⟨⟨_, _, _, _, _, _, _, _, _, _, rfl, hR, r1, r2, r3, r4, ?_, ?_, ?_, ?_⟩⟩
  · have b1 : 2 * List.idxOf (x + wd) cols + 1 - 2 * List.idxOf x cols ≤ 9 := by omega
    have b2 : 2 * List.idxOf (y + ht) rows + 1 - 2 * List.idxOf y rows ≤ 9 := by omega
    exact Nat.le_trans (Nat.mul_le_mul b1 b2) (by decide)
  · intro C s₂ u E' hC hu hk₂
    have F₂ := Fr.mk hu hk₂ hC
    dsimp only at F₂
    obtain ⟨news, N₂, W⟩ := whole F₂
    have fin := fun (r : Addr) (h : Heap) (tk : Nat) (b b2 : Int) (t0 u0 v0 : Tok) => @rg_end _ C r u u s₂ h tk b b2 t0 u0 v0 news F₂ W
    clear W hk₂ hu hC N1 F1
    refine cps ?_
    intro qz hqz
    k_steps
    rename_i j1 g1 j2 g2 h9 tk9 t9 u9 v9 R9 F9 N9 K9
    subst g1 g2
    exact hqz _ _ (fin _ _ _ _ _ _ _ _ F9 N9 R9)
  · intro C i k t t' s₂ u E' hC hu hx hy hk₂
    have F₂ := Fr.mk hu hk₂ hC
    dsimp only at F₂
    obtain ⟨news, N₂, W⟩ := whole F₂
    have fin := fun (T : Addr) (h : Heap) (tk n : Nat) (i k : Int) (ti tj : Tok) => @el_end _ C T u u s₂ h tk n i k ti tj news F₂ W
    clear W hk₂ hu hC N1 F1
    refine cps ?_
    intro qz hqz
    k_steps
    rename_i D9 h9 F9 N9 l9
    exact hqz _ _ (fin _ _ _ _ _ _ _ _ F9 N9 l9)
  · intro l h' tk ys hl hL hP hk'
    dsimp only at hk' hl
    have F9 := Fr.mk (F1.ns.keeps hk') (fun b o e => hk' _ _ (F1.keep b o e)) F1.above
    walk_at "m_end"
    refine ⟨l, ys, rfl, none_of (ws := []) (fun b o _ e => F1.keep b o e) List.not_mem_nil hl, hL, hP⟩
end

-- P4
section
theorem News.add {h₀ h h' : Heap} {L r : Addr} {o : Obj} {m : Str → Option Value} {news : List (Addr × Obj)} (N : News h₀ L h' news) (F : Fr h₀ L h m) (hn : h.get? r = none) (e : h'.get? r = some o) : News h₀ L h' ((r, o) :: news) := by
  intro p hp
  rcases List.mem_cons.mp hp with rfl | hp
  · refine ⟨e, fun q => ?_, ?_⟩
    · obtain ⟨_, _, _, ho, _⟩ := F.ns
      rw [← q, hn] at ho
      cases ho
    · cases q : h₀.get? r with
      | none => rfl
      | some x => have := F.keep _ _ q; rw [hn] at this; cases this
  · exact N p hp

theorem call_pur {w : World} {dp un : Nat} {f : Addr} {pos : List Value} {kw : List (Str × Value)} {s : Shared} {P : Value → Heap → Prop} {mean : ExcName → Option Value} {mg mb : Str → Option Value} {gd : Option (List Code)} {cn : Str} {cs : Scope} {a : Addr} {ccd : Value} {cl : List (Str × Addr)} {outer : List Env} {A₀ : Around} {base h₀ : Heap} {L : Addr} {m : Str → Option Value}
    {news : List (Addr × Obj)} {Q E : Value → Shared → Prop} (hP : Pur w dp un f ⟨pos, kw⟩ s P) (B : Below A₀ base outer h₀) (F : Fr h₀ L s.heap m) (X : (Mine.K0 w.params).In h₀) (T : Top Mine.Vw (looseW Mine.Vw [Str.ofString "Rectangle"]) mean mg mb h₀) (hk : cs.kind = .function) (N : News h₀ L s.heap news)
    (h : ∀ v h' tk', P v h' → Kp s.heap h' → Fr h₀ L h' m → News h₀ L h' news → Q v { s with heap := h', toks := tk' }) :
    wpAny (model PySem.Challenge.rw_jb0029_01.row.prog w) (ktrTop dp un gd cn cs L a ccd cl outer) (call (.ref f) pos kw) Q E s :=
  wpAny_call (hP mean mg mb gd cn cs a ccd cl outer A₀ base h₀ L m _ B F X T hk fun v h' tk' K p => h v h' tk' p K (Fr.up F K) (News.up N K))

theorem s_max {x z : Int} : (if z > x then z else x) = max x z := by omega
theorem s_len {p q x z : Int} : (if q < p then q else p) - (if z > x then z else x) = min p q - max x z := by omega
theorem s_pos {x wd x2 w2 : Int} (h : x ≤ x2 + w2 ∧ x2 ≤ x + wd) (h1 : 0 ≤ wd) (h2 : 0 ≤ w2) : 0 ≤ (if x2 + w2 < x + wd then x2 + w2 else x + wd) - if x2 > x then x2 else x := by omega
end

local macro_rules | `(tactic| walk_at "m_mm1") => `(tactic| first | exact List.Mem.head _ | (refine List.Mem.tail _ ?_; walk_at "m_mm1"))
local macro_rules | `(tactic| walk_at "m_mm") => `(tactic| first | walk_at "m_mm1" | with_reducible assumption | (refine mem_of ?_; with_reducible assumption))
local macro_rules | `(tactic| k_mem) => `(tactic| first | walk_at "m_mm1" | with_reducible assumption | (refine mem_of ?_; with_reducible assumption))
local macro_rules | `(tactic| walk_at "m_le") => `(tactic| first | omega | ((try simp only [depth_under_make, depth_under_kw, depth_in1, depth_deeper, depth_caller, units_in1, units_deeper, Around.mark_units, units_caller]); (try dsimp only [ktrTop]); first | omega | decide))
local macro_rules | `(tactic| walk_at "m_pur") => `(tactic| ((case B => k_asm); (case F => k_asm); (case X => k_asm); (case T => k_asm); (case hk => first | exact rfl | assumption); (case N => k_asm); (case hd => walk_at "m_le"); (case hu => walk_at "m_le")))
local macro_rules | `(tactic| walk_at "m_obj") => `(tactic| first
  | with_reducible assumption
  | (refine' News.get ?fk ?fh; (case fk => with_reducible assumption); (case fh => walk_at "m_mm"))
  | (refine' Fr.keep ?fk _ _ ?fh; (case fk => with_reducible assumption); (case fh => walk_at "m_base")))
local macro_rules | `(tactic| walk_at "m_s4") => `(tactic| ((walk_at "m_pur"); (case a => walk_at "m_obj"); (case da => walk_at "m_obj"); (case b => walk_at "m_obj"); (case db => walk_at "m_obj")))
local macro_rules | `(tactic| walk_at "m_t0") => `(tactic| (intro v' h' tk' hv' hK' F' N'; k_dflt (subst hv'); (try dsimp only)))
local macro_rules | `(tactic| walk_at "call ref") => `(tactic| (k_here; (with_reducible show wpAny _ _ (call (Value.ref 185) [Value.ref _, Value.ref _] (List.zip _ [Value.bool true])) _ _ _); k_dflt (refine' call_pur (inter_t ?hd ?hu ?a ?da ?b ?db) ?B ?F ?X ?T ?hk ?N ?_; walk_at "m_s4"); walk_at "m_t0"))
local macro_rules | `(tactic| walk_at "call ref") => `(tactic| (k_here; (with_reducible show wpAny _ _ (call (Value.ref 185) [Value.ref _, Value.ref _] (List.zip _ [Value.bool false])) _ _ _); k_dflt (refine' call_pur (inter_f ?hd ?hu ?a ?da ?b ?db) ?B ?F ?X ?T ?hk ?N ?_; walk_at "m_s4"); walk_at "m_t0"))
local macro_rules | `(tactic| walk_at "call ref") => `(tactic| (k_here; (with_reducible show wpAny _ _ (call (Value.ref 203) [_, _, _, _] []) _ _ _); k_dflt (refine' rect_c ?hd ?hu ?B ?F ?X ?T ?hk ?N ?z1 ?z2 ?_; (case B => k_asm); (case F => k_asm); (case X => k_asm); (case T => k_asm); (case hk => first | exact rfl | assumption); (case N => k_asm); (case hd => walk_at "m_ple"); (case hu => walk_at "m_ple"); (case z1 => with_reducible assumption); (case z2 => with_reducible assumption)); intro x' d' ka' kb' kc' kd' ke' h' tk' F' N' l1 l2; (try k_lt l1); (try k_lt2 l2); (try k_sweep); (try dsimp only)))
theorem rs6 {M : Model} {A : Around} {env : Env} {E : Value → Shared → Prop} {Q : Flow → Shared → Prop} {s : Shared} (h : wpAny M A (execs [] env) Q E s) : wpAny M A (execs [] env) Q E s := by
  w_top off
  first | (walk1; done) | exact h

section
/-- a rectangle at an address, made since g -/
def RectNew (w : World) (g h : Heap) (a : Addr) (x y wd ht : Int) : Prop := ∃ da ta tb tc td te tx ty tw th, g.get? a = none ∧ g.get? da = none ∧ h.get? a = some (instObj 203 da) ∧ h.get? da = some (rd w.params ta tb tc td te x y wd ht tx ty tw th)
theorem rectNew {w : World} {g h : Heap} {L a da : Addr} {news : List (Addr × Obj)} {ta tb tc td te : Tok} {x y wd ht x' y' wd' ht' : Int} {tx ty tw th : Tok}
    (N : News g L h ((a, instObj 203 da) :: (da, rd w.params ta tb tc td te x y wd ht tx ty tw th) :: news)) (ex : x = x') (ey : y = y') (ew : wd = wd') (eh : ht = ht') : RectNew w g h a x' y' wd' ht' := by
  subst ex ey ew eh
  have a1 := N _ (.head _)
  have a2 := N _ (.tail _ (.head _))
  exact ⟨da, ta, tb, tc, td, te, tx, ty, tw, th, a1.2.2, a2.2.2, a1.1, a2.1⟩

section
variable {w : World} {dp un : Nat} {s : Shared} {a da b db : Addr} {ta tb tc td te ua ub uc ud ue : Tok} {x y wd ht x2 y2 w2 h2 : Int} {tx ty tw th ux uy uw uh : Tok} 
set_option maxHeartbeats 4000000 in
theorem section_t (hd : dp ≤ 400) (hu : un ≤ 4000)
    (ha : s.heap.get? a = some (instObj 203 da)) (hda : s.heap.get? da = some (rd w.params ta tb tc td te x y wd ht tx ty tw th))
    (hb : s.heap.get? b = some (instObj 203 db)) (hdb : s.heap.get? db = some (rd w.params ua ub uc ud ue x2 y2 w2 h2 ux uy uw uh))
    (hc : y ≤ y2 + h2 ∧ y2 ≤ y + ht ∧ x ≤ x2 + w2 ∧ x2 ≤ x + wd) (h1 : 0 ≤ wd ∧ 0 ≤ ht ∧ 0 ≤ w2 ∧ 0 ≤ h2) :
    Pur w dp un 193 ⟨[.ref a, .ref b], [(Str.ofString "edges", .bool true)]⟩ s (fun v h => ∃ r, v = .ref r ∧ RectNew w s.heap h r (max x x2) (max y y2) (min (x + wd) (x2 + w2) - max x x2) (min (y + ht) (y2 + h2) - max y y2)) := by
  intro mean mg mb gd cn cs aa ccd cl outer A₀ base h₀ L m R B F X T hk hret
  walk_at "m_enter"
  have z1 := s_pos hc.2.2 h1.1 h1.2.2.1
  have z2 := s_pos ⟨hc.1, hc.2.1⟩ h1.2.1 h1.2.2.2
  k_steps
  exact pend hret (by assumption) ⟨_, rfl, rectNew (by with_reducible assumption) s_max s_max s_len s_len⟩

set_option maxHeartbeats 4000000 in
theorem section_tn (hd : dp ≤ 400) (hu : un ≤ 4000)
    (ha : s.heap.get? a = some (instObj 203 da)) (hda : s.heap.get? da = some (rd w.params ta tb tc td te x y wd ht tx ty tw th))
    (hb : s.heap.get? b = some (instObj 203 db)) (hdb : s.heap.get? db = some (rd w.params ua ub uc ud ue x2 y2 w2 h2 ux uy uw uh))
    (hc : ¬ (y ≤ y2 + h2 ∧ y2 ≤ y + ht ∧ x ≤ x2 + w2 ∧ x2 ≤ x + wd)) :
    Pur w dp un 193 ⟨[.ref a, .ref b], [(Str.ofString "edges", .bool true)]⟩ s (fun v _ => v = .none) := by
  intro mean mg mb gd cn cs aa ccd cl outer A₀ base h₀ L m R B F X T hk hret
  walk_at "m_enter"
  k_steps
  all_goals (walk_at "m_end")

set_option maxHeartbeats 4000000 in
theorem section_d (hd : dp ≤ 400) (hu : un ≤ 4000)
    (ha : s.heap.get? a = some (instObj 203 da)) (hda : s.heap.get? da = some (rd w.params ta tb tc td te x y wd ht tx ty tw th))
    (hb : s.heap.get? b = some (instObj 203 db)) (hdb : s.heap.get? db = some (rd w.params ua ub uc ud ue x2 y2 w2 h2 ux uy uw uh))
    (hc : y < y2 + h2 ∧ y2 < y + ht ∧ x < x2 + w2 ∧ x2 < x + wd) (h1 : 0 ≤ wd ∧ 0 ≤ ht ∧ 0 ≤ w2 ∧ 0 ≤ h2) :
    Pur w dp un 193 ⟨[.ref a, .ref b], []⟩ s (fun v h => ∃ r, v = .ref r ∧ RectNew w s.heap h r (max x x2) (max y y2) (min (x + wd) (x2 + w2) - max x x2) (min (y + ht) (y2 + h2) - max y y2)) := by
  intro mean mg mb gd cn cs aa ccd cl outer A₀ base h₀ L m R B F X T hk hret
  walk_at "m_enter"
  have z1 := s_pos ⟨Int.le_of_lt hc.2.2.1, Int.le_of_lt hc.2.2.2⟩ h1.1 h1.2.2.1
  have z2 := s_pos ⟨Int.le_of_lt hc.1, Int.le_of_lt hc.2.1⟩ h1.2.1 h1.2.2.2
  k_steps
  exact pend hret (by assumption) ⟨_, rfl, rectNew (by with_reducible assumption) s_max s_max s_len s_len⟩

set_option maxHeartbeats 4000000 in
theorem section_dn (hd : dp ≤ 400) (hu : un ≤ 4000)
    (ha : s.heap.get? a = some (instObj 203 da)) (hda : s.heap.get? da = some (rd w.params ta tb tc td te x y wd ht tx ty tw th))
    (hb : s.heap.get? b = some (instObj 203 db)) (hdb : s.heap.get? db = some (rd w.params ua ub uc ud ue x2 y2 w2 h2 ux uy uw uh))
    (hc : ¬ (y < y2 + h2 ∧ y2 < y + ht ∧ x < x2 + w2 ∧ x2 < x + wd)) :
    Pur w dp un 193 ⟨[.ref a, .ref b], []⟩ s (fun v _ => v = .none) := by
  intro mean mg mb gd cn cs aa ccd cl outer A₀ base h₀ L m R B F X T hk hret
  walk_at "m_enter"
  k_steps
  all_goals (walk_at "m_end")
end
end

-- IT4
theorem rs7 {M : Model} {A : Around} {env : Env} {E : Value → Shared → Prop} {Q : Flow → Shared → Prop} {s : Shared} (h : wpAny M A (execs [] env) Q E s) : wpAny M A (execs [] env) Q E s := by
  w_top off
  first | (walk1; done) | exact h

section
section
variable {w : World} {dp un : Nat} {gd : Option (List Code)} {cn : Str} {cs : Scope} {L aa r dr : Addr} {ccd : Value} {cl : List (Str × Addr)} {outer : List Env} {A₀ : Around} {base h₀ : Heap} {m : Str → Option Value} {mean : ExcName → Option Value} {mg mb : Str → Option Value} {s : Shared} {E : Value → Shared → Prop} {Q : Value → Shared → Prop} {news : List (Addr × Obj)}
  {ka kb kc kd ke tx ty tw th : Tok} {x y wd ht : Int}

theorem over_gen {body : List Stmt} {cn' : Str} {sc : Scope} {Lg a' : Addr} {cd' : Value} :
    (ktrTop dp un gd cn cs L aa ccd cl outer).in1.over (.func body (envX cn' sc Lg a' cd' [])) [] = ktrTop (dp + 1) (un + 4) gd cn' sc Lg a' cd' [] (envX cn cs L aa ccd cl :: outer) := by
  rfl

set_option maxHeartbeats 400000 in
theorem pt_elt {scope : Scope} {p1 p2 p3 p4 p5 : Pos} {k : Nat} {g : Heap} {C T dT : Addr} {ta tb t1 t2 : Tok} {p : Int × Int} {s₂ : Shared} {u : Str → Option Value} {E' : Value → Shared → Prop} (X : (Mine.K0 w.params).In g) (T₀ : Top Mine.Vw (looseW Mine.Vw [Str.ofString "Rectangle"]) mean mg mb g) (hsk : scope.kind = .function) (hsc : scope.names = [(Str.ofString ".0", .local), (Str.ofString "point", .local)]) (hC : g.objs.size ≤ C)
    (n1 : T ≠ C) (n2 : dT ≠ C) (f1 : g.get? T = none) (f2 : g.get? dT = none) (hT : s₂.heap.get? T = some (instObj 52 dT)) (hd : s₂.heap.get? dT = some (pd w.params ta tb p.1 p.2 t1 t2)) (hu : s₂.heap.Ns C u) (hx : u (Str.ofString "point") = some (.ref T)) (hk₂ : Kp g s₂.heap) :
    wpAny (model PySem.Challenge.rw_jb0029_01.row.prog w) (ktrTop dp un gd cn cs L aa ccd cl outer) (eval (.Tuple [.Attribute (.Name (Str.ofString "point") p1) (Str.ofString "x") p2, .Attribute (.Name (Str.ofString "point") p3) (Str.ofString "y") p4] k p5) (compEnvC scope [] C (envX cn cs L aa ccd cl))) (ElEnd C u p.1 p.2 s₂) E' s₂ := by
  obtain ⟨sk, sn, sg, sc, sm⟩ := scope
  dsimp only at hsk hsc
  subst hsk hsc
  have F₂ := Fr.mk hu hk₂ hC
  obtain ⟨news, N₂, W⟩ := whole F₂
  have N₃ : News g C s₂.heap ((T, instObj 52 dT) :: (dT, pd w.params ta tb p.1 p.2 t1 t2) :: news) := by
    intro q hq
    rcases List.mem_cons.mp hq with rfl | hq
    · exact ⟨hT, n1, f1⟩
    rcases List.mem_cons.mp hq with rfl | hq
    · exact ⟨hd, n2, f2⟩
    · exact N₂ q hq
  have W₃ : ∀ b o, b ≠ C → g.get? b = none → s₂.heap.get? b = some o → (b, o) ∈ ((T, instObj 52 dT) :: (dT, pd w.params ta tb p.1 p.2 t1 t2) :: news) := fun b o h1 h2 h3 => .tail _ (.tail _ (W b o h1 h2 h3))
  have fin := fun (T' : Addr) (h : Heap) (tk n : Nat) (i k : Int) (ti tj : Tok) => @el_end _ C T' u u s₂ h tk n i k ti tj _ F₂ W₃
  clear W W₃ hk₂ hu hC N₂
  refine cps ?_
  intro qz hqz
  k_steps
  exact hqz _ _ (fin _ _ _ _ _ _ _ _ (by k_asm) (by with_reducible assumption) (by with_reducible assumption))

theorem comp_iter2 {scope : Scope} {nm : Str} {p1 p2 p3 p4 p5 p6 p7 pos : Pos} {k : Nat} {pts : List (Int × Int)} {h₂ : Heap} {tk₂ Lg G gi : Nat} {g₂ : Array GenState} {u0 : Str → Option Value} (hd : dp ≤ 310) (X : (Mine.K0 w.params).In s.heap) (T : Top Mine.Vw (looseW Mine.Vw [Str.ofString "Rectangle"]) mean mg mb s.heap)
    (F₂ : Fr s.heap Lg h₂ u0) (hLG : Lg < G) (hzG : h₂.objs.size = G + 1) (hb₂ : AllBare g₂) (hsz : pts.length ≤ sizeLine) (rdy : GenRdy PySem.Challenge.rw_jb0029_01.row.prog w (ktrTop dp un gd cn cs L aa ccd cl outer) s.heap Lg u0 pts G gi 0 { s with heap := h₂, toks := tk₂, gens := g₂ })
    (hclos : closureFor scope (envX cn cs L aa ccd cl) = pure []) (hsk : scope.kind = .function) (hsc : scope.names = [(Str.ofString ".0", .local), (Str.ofString "point", .local)])
    (h : ∀ D oD zs n h' tk g', AllBare g' → s.heap.get? D = none → Kp s.heap h' → h'.get? D = some oD → oD.cls = .type "list" → oD.data = .seq zs n → Paired (PtIs h') zs.toList pts → Q (.ref D) { s with heap := h', toks := tk, gens := g' }) :
    wpAny (model PySem.Challenge.rw_jb0029_01.row.prog w) (ktrTop dp un gd cn cs L aa ccd cl outer) (newList []) (fun acc s₃ => wpAny (model PySem.Challenge.rw_jb0029_01.row.prog w) (ktrTop dp un gd cn cs L aa ccd cl outer) (newFunctionEnv scope (envX cn cs L aa ccd cl).globals [] [] (envX cn cs L aa ccd cl).qual none .none (some (envX cn cs L aa ccd cl))) (fun cenv s₄ =>
      codeAny (model PySem.Challenge.rw_jb0029_01.row.prog w) (ktrTop dp un gd cn cs L aa ccd cl outer) (.compStart (.ListComp (.Tuple [.Attribute (.Name (Str.ofString "point") p1) (Str.ofString "x") p2, .Attribute (.Name (Str.ofString "point") p3) (Str.ofString "y") p4] k p5) [⟨.Name (Str.ofString "point") p6, .Name nm p7, [], 0⟩] scope pos) 0 (.ref G) acc { cenv with scope := relabel scope (envX cn cs L aa ccd cl) })
        (compPost (model PySem.Challenge.rw_jb0029_01.row.prog w) (ktrTop dp un gd cn cs L aa ccd cl outer) E none Q acc cenv.locals) s₄) E s₃) E { s with heap := h₂, toks := tk₂, gens := g₂ } := by
  have hcell : ∀ y ∈ scope.names, y.2 ≠ .cell := by rw [hsc]; decide
  have hx : scope.names.lookup (Str.ofString "point") = some .local := by rw [hsc]; decide
  refine wpAny_newObj_type (wpAny_newFunctionEnv hcell (by intro y hy; simp at hy) (fun h₃ hns₃ hsb₃ => ?_) hsk)
  dsimp only at hns₃ hsb₃ ⊢
  generalize hH2 : h₂.push { cls := .type "list", dict := none, data := .seq ([] : List Value).toArray } = H2 at hns₃ hsb₃ ⊢
  have z2 : H2.objs.size = h₂.objs.size + 1 := by rw [← hH2, Heap.size_push]
  have n21 : h₂.objs.size ≠ H2.objs.size := by rw [z2]; exact Nat.ne_of_lt (Nat.lt_succ_self _)
  have up₃ : ∀ p o, h₂.get? p = some o → h₃.get? p = some o := fun p o e => hsb₃.extBut p o (by
    have lt := Heap.lt_size e
    rw [z2]
    exact Nat.ne_of_lt (Nat.lt_succ_of_lt lt)) (Heap.get?_push_of_some _ (hH2 ▸ Heap.get?_push_of_some _ e))
  have hacc : h₃.IsList h₂.objs.size #[] := ⟨_, hsb₃.extBut _ _ n21 (Heap.get?_push_of_some _ (hH2 ▸ Heap.get?_push_size _ rfl)), rfl, _, rfl⟩
  have fresh : ∀ p, s.heap.objs.size ≤ p → s.heap.get? p = none := fun p hp => by
    cases e : s.heap.get? p with
    | none => rfl
    | some o' => exact absurd (Heap.lt_size e) (Nat.not_lt.mpr hp)
  have lL : s.heap.objs.size ≤ Lg := F₂.above
  have lD : s.heap.objs.size ≤ h₂.objs.size := by rw [hzG]; exact Nat.le_trans lL (Nat.le_of_lt (Nat.lt_succ_of_lt hLG))
  have lC : s.heap.objs.size ≤ H2.objs.size := by rw [z2]; exact Nat.le_succ_of_le lD
  have hDL : h₂.objs.size ≠ Lg := by rw [hzG]; exact Nat.ne_of_gt (Nat.lt_succ_of_lt hLG)
  have hCL : H2.objs.size ≠ Lg := by rw [z2, hzG]; exact Nat.ne_of_gt (Nat.lt_succ_of_lt (Nat.lt_succ_of_lt hLG))
  have hGC : G ≠ H2.objs.size := by rw [z2, hzG]; exact Nat.ne_of_lt (Nat.lt_succ_of_lt (Nat.lt_succ_self _))
  have hGD : G ≠ h₂.objs.size := by rw [hzG]; exact Nat.ne_of_lt (Nat.lt_succ_self _)
  have hgen := rdy.1.keeps (h' := h₃) up₃
  have F₃ : Fr s.heap Lg h₃ u0 := Fr.up F₂ up₃
  have loop : ∀ s₃ : Shared, s₃ = { s with heap := h₃, toks := tk₂ + ([] : List (Str × Value)).length, gens := g₂ } →
      codeAny (model PySem.Challenge.rw_jb0029_01.row.prog w) (ktrTop dp un gd cn cs L aa ccd cl outer) (.compLoop (.ListComp (.Tuple [.Attribute (.Name (Str.ofString "point") p1) (Str.ofString "x") p2, .Attribute (.Name (Str.ofString "point") p3) (Str.ofString "y") p4] k p5) [⟨.Name (Str.ofString "point") p6, .Name nm p7, [], 0⟩] scope pos) 0 (.ref G) (.ref h₂.objs.size) (compEnvC scope [] H2.objs.size (envX cn cs L aa ccd cl)))
        (compPost (model PySem.Challenge.rw_jb0029_01.row.prog w) (ktrTop dp un gd cn cs L aa ccd cl outer) E none Q (.ref h₂.objs.size) H2.objs.size) s₃ := by
    rintro s₃ rfl
    refine it_loop (cenv := compEnvC scope [] H2.objs.size (envX cn cs L aa ccd cl)) (g := s.heap) (Lg := Lg) (u0 := u0) (pts := pts) (gi := gi) rfl (Nat.lt_of_le_of_lt hd (by decide)) T.nolimit (lookup_relabel_local hx) (by simp [compEnvC, relabel, hsk])
      n21 hDL hCL hGC hGD (Nat.ne_of_gt hLG) (fresh _ lC) (fresh _ lD) F₃ hacc hns₃ ⟨hgen, rdy.2⟩ hb₂ hsz (fun T' dT ta tb t1 t2 p s₄ u E' n1 n2 f1 f2 hT hd' hn hu hk => pt_elt X T hsk hsc lC n1 n2 f1 f2 hT hd' hn hu hk) fun h' tk g' m' zs hn hl hP hk hb' => ?_
    refine ⟨m', hn, fun h'' hs'' => ?_⟩
    obtain ⟨oD, hD, hc, n, hd'⟩ := hl.extBut hs''.extBut n21
    have kpA : ∀ p o, s.heap.get? p = some o → h'.get? p = some o := fun p o e => by
      have lt := Heap.lt_size e
      refine hk p o ?_ (up₃ p o (F₂.keep p o e))
      simp only [List.mem_cons, List.not_mem_nil, or_false, not_or]
      exact ⟨Nat.ne_of_lt (Nat.lt_of_lt_of_le lt lC), Nat.ne_of_lt (Nat.lt_of_lt_of_le lt lL), Nat.ne_of_lt (Nat.lt_of_lt_of_le lt lD)⟩
    refine h _ oD zs n h'' tk g' hb' (fresh _ lD) (fun p o e => hs''.extBut p o (Nat.ne_of_lt (Nat.lt_of_lt_of_le (Heap.lt_size e) lC)) (kpA p o e)) hD hc hd' (hP.mono fun v q hv => ?_)
    obtain ⟨T', ti, tj, e, o, ho, hc', n', hdT⟩ := hv
    refine ⟨T', ti, tj, e, o, hs''.extBut T' o ?_ ho, hc', n', hdT⟩
    rintro rfl
    obtain ⟨oC, es, ep, hoC, hdC, _⟩ := hn
    have : some o = some oC := ho.symm.trans hoC
    cases this
    rw [hdT] at hdC
    cases hdC
  exact codeAny_compStart_list (loop _ rfl) (wpAny_pyIter_gen hgen (loop _ rfl))

/-- the corners of a rectangle, by its own iterator -/
theorem comp_iter {scope : Scope} {nm : Str} {p1 p2 p3 p4 p5 p6 p7 pos : Pos} {k : Nat} (hd : dp ≤ 310) (hu : un ≤ 1000) (hb : Below A₀ base outer h₀) (hck : cs.kind = .function) (X : (Mine.K0 w.params).In h₀) (T : Top Mine.Vw (looseW Mine.Vw [Str.ofString "Rectangle"]) mean mg mb h₀) (F : Fr h₀ L s.heap m) (hm : m nm = some (.ref r)) (hkd : (envX cn cs L aa ccd cl).kindOf nm = some .local) (hnd : (nm == ("__debug__" : Str)) = false)
    (N : News h₀ L s.heap news) (hr : (r, instObj 203 dr) ∈ news) (hdr : (dr, rd w.params ka kb kc kd ke x y wd ht tx ty tw th) ∈ news) (hG : AllBare s.gens)
    (hclos : closureFor scope (envX cn cs L aa ccd cl) = pure []) (hsk : scope.kind = .function) (hsc : scope.names = [(Str.ofString ".0", .local), (Str.ofString "point", .local)])
    (h : ∀ D oD zs n h' tk g', AllBare g' → Fr h₀ L h' m → News h₀ L h' ((D, oD) :: news) → oD.cls = .type "list" → oD.data = .seq zs n → Paired (PtIs h') zs.toList [(x, y + ht), (x + wd, y + ht), (x + wd, y), (x, y)] → Q (.ref D) { s with heap := h', toks := tk, gens := g' }) :
    wpAny (model PySem.Challenge.rw_jb0029_01.row.prog w) (ktrTop dp un gd cn cs L aa ccd cl outer) (eval (.ListComp (.Tuple [.Attribute (.Name (Str.ofString "point") p1) (Str.ofString "x") p2, .Attribute (.Name (Str.ofString "point") p3) (Str.ofString "y") p4] k p5) [⟨.Name (Str.ofString "point") p6, .Name nm p7, [], 0⟩] scope pos) (envX cn cs L aa ccd cl)) Q E s := by
  obtain ⟨_, BG, _, _⟩ := groundX (A := ktrTop dp un gd cn cs L aa ccd cl outer) (R := fun _ _ => True) hb F (News.nil (h₀ := h₀)) rfl rfl hck
  have X1 := X.keeps F.keep
  have T1 := T.keeps F.keep
  have gr := N.get hr
  have gdr := N.get hdr
  have hcell : ∀ y ∈ scope.names, y.2 ≠ .cell := by rw [hsc]; decide
  rw [eval_ListComp]
  refine wpAny_comprehension_free (use := none) rfl (by intro _; rfl) hclos hsk (by rw [hsc]; decide) ?_
  refine wpAny_Name (wpAny_loadName_local (env := envX cn cs L aa ccd cl) hck hkd F.ns hm ?_) hnd
  refine owit_iter (f := 156) F X (show InstAt s.heap r (instObj 203 dr) 203 (some (rd w.params ka kb kc kd ke x y wd ht tx ty tw th)) from ⟨gr, rfl, rfl, gdr⟩) (by k_is) (by k_is) ?_
  refine wpAny_call ?_
  refine' code_gen F X T ?ho ?hcd ?hroom ?hbind ?hloc ?_ ?c1 ?c2 ?c3 ?c4
  case ho => k_is
  case hcd => k_is
  case hroom => show dp < _; exact Nat.lt_of_le_of_lt hd (by decide)
  case hbind => exact BindsTo.of_eq rfl
  case hloc => exact locs rfl
  case c1 => exact rfl
  case c2 => exact rfl
  case c3 => exact rfl
  case c4 => decide
  intro h₂ tk₂ hns₂ hk₂ G hLG hzG hgen
  have hns₃ : h₂.Ns s.heap.objs.size (fun y => List.lookup y (List.reverse [(Str.ofString "self", Value.ref r)])) := hns₂
  clear hns₂
  show OwitIt _ _ _ _ (.ref G) _
  unfold OwitIt
  refine wpAny_specialOf hgen.typeIs slot_gen_next.lookup ?_
  refine comp_iter2 (pts := [(x, y + ht), (x + wd, y + ht), (x + wd, y), (x, y)]) (u0 := fun y => List.lookup y (List.reverse [(Str.ofString "self", Value.ref r)])) (gi := s.gens.size) hd X1 T1 ⟨hns₃, hk₂, Nat.le_refl _⟩ hLG hzG (bare_push hG rfl) (show 4 ≤ sizeLine by decide) ⟨hgen, _, Array.getElem?_push_size, fun s'' F'' => ⟨rfl, ?_⟩⟩ hclos hsk hsc ?_
  · exact gen_seg (dp := dp + 1) (un := un + 4) rfl rfl over_gen (by omega) (by omega) BG X1 T1 F'' gr gdr
  · intro D oD zs n h' tk g' hb' hDn hk' hD hc hd' hP
    exact h D oD zs n h' tk g' hb' (Fr.up F hk') (News.add (News.up N hk') F hDn hD) hc hd' hP
end
end

-- P5
theorem rs8 {M : Model} {A : Around} {env : Env} {E : Value → Shared → Prop} {Q : Flow → Shared → Prop} {s : Shared} (h : wpAny M A (execs [] env) Q E s) : wpAny M A (execs [] env) Q E s := by
  w_top off
  first | (walk1; done) | exact h

section
section
variable {w : World} {dp un : Nat} {s : Shared} {a da b db : Addr} {ta tb tc td te ua ub uc ud ue : Tok} {x y wd ht x2 y2 w2 h2 : Int} {tx ty tw th ux uy uw uh : Tok} 

set_option maxHeartbeats 4000000 in
theorem area_c (hd : dp ≤ 400) (hu : un ≤ 4000) (ha : s.heap.get? a = some (instObj 203 da)) (hda : s.heap.get? da = some (rd w.params ta tb tc td te x y wd ht tx ty tw th)) (hm : IntMulOk wd ht) :
    Pur w dp un 163 ⟨[.ref a], []⟩ s (fun v _ => ∃ t, v = .int (wd * ht) t) := by
  intro mean mg mb gd cn cs aa ccd cl outer A₀ base h₀ L m R B F X T hk hret
  walk_at "m_enter"
  k_steps
  all_goals (walk_at "m_end"; exact ⟨_, rfl⟩)

set_option maxHeartbeats 4000000 in
theorem lt_c (hd : dp ≤ 400) (hu : un ≤ 4000) (ha : s.heap.get? a = some (instObj 203 da)) (hda : s.heap.get? da = some (rd w.params ta tb tc td te x y wd ht tx ty tw th)) 
    (hb : s.heap.get? b = some (instObj 203 db)) (hdb : s.heap.get? db = some (rd w.params ua ub uc ud ue x2 y2 w2 h2 ux uy uw uh)) (hm : IntMulOk wd ht) (hm2 : IntMulOk w2 h2) :
    Pur w dp un 142 ⟨[.ref a, .ref b], []⟩ s (fun v _ => v = .bool (decide (wd * ht < w2 * h2))) := by
  intro mean mg mb gd cn cs aa ccd cl outer A₀ base h₀ L m R B F X T hk hret
  walk_at "m_enter"
  k_steps
  all_goals (walk_at "m_end")

set_option maxHeartbeats 4000000 in
theorem eq_c (hd : dp ≤ 400) (hu : un ≤ 4000) (ha : s.heap.get? a = some (instObj 203 da)) (hda : s.heap.get? da = some (rd w.params ta tb tc td te x y wd ht tx ty tw th)) 
    (hb : s.heap.get? b = some (instObj 203 db)) (hdb : s.heap.get? db = some (rd w.params ua ub uc ud ue x2 y2 w2 h2 ux uy uw uh)) :
    Pur w dp un 149 ⟨[.ref a, .ref b], []⟩ s (fun v _ => v = .bool (decide (wd = w2 ∧ ht = h2 ∧ x = x2 ∧ y = y2))) := by
  intro mean mg mb gd cn cs aa ccd cl outer A₀ base h₀ L m R B F X T hk hret
  walk_at "m_enter"
  k_steps
  all_goals (walk_at "m_end"; (congr 1; rw [Bool.eq_iff_iff]; simp only [beq_iff_eq, decide_eq_true_eq, Bool.false_eq_true]; omega))

set_option maxHeartbeats 4000000 in
theorem told_n (hd : dp ≤ 400) (hu : un ≤ 4000) : Pur w dp un 240 ⟨[.none], []⟩ s (fun v _ => v = .none) := by
  intro mean mg mb gd cn cs aa ccd cl outer A₀ base h₀ L m R B F X T hk hret
  walk_at "m_enter"
  k_steps
  all_goals (walk_at "m_end")

/-- a tuple of the values, made since g -/
def TupN (g h : Heap) (v : Value) (vs : List Value) : Prop := ∃ T n, v = .ref T ∧ g.get? T = none ∧ h.get? T = some { cls := .type "tuple", data := .seq vs.toArray n }
theorem tupN {g h : Heap} {L T : Addr} {n : Nat} {news : List (Addr × Obj)} {vs : List Value} {A : Array Value} (N : News g L h ((T, { cls := .type "tuple", data := .seq A n }) :: news)) (e : A = vs.toArray) : TupN g h (.ref T) vs := by
  subst e
  have a1 := N _ (.head _)
  exact ⟨T, n, rfl, a1.2.2, a1.1⟩

set_option maxHeartbeats 4000000 in
theorem told_r (hd : dp ≤ 400) (hu : un ≤ 4000) (ha : s.heap.get? a = some (instObj 203 da)) (hda : s.heap.get? da = some (rd w.params ta tb tc td te x y wd ht tx ty tw th)) :
    Pur w dp un 240 ⟨[.ref a], []⟩ s (fun v h => TupN s.heap h v [.int x tx, .int y ty, .int wd tw, .int ht th]) := by
  intro mean mg mb gd cn cs aa ccd cl outer A₀ base h₀ L m R B F X T hk hret
  walk_at "m_enter"
  k_steps
  all_goals (refine pend hret (by assumption) (tupN (by with_reducible assumption) rfl))

/-- a list of the four points' tuples, made since g -/
def PtsN (g h : Heap) (v : Value) (pts : List (Int × Int)) : Prop := ∃ l ys n, v = .ref l ∧ g.get? l = none ∧ h.get? l = some (listOf ys.toArray n) ∧ Paired (PtIs h) ys pts
theorem ptIs {g h : Heap} {L T : Addr} {n : Nat} {news : List (Addr × Obj)} {A : Array Value} {i j i' j' : Int} {ti tj : Tok} (N : News g L h news) (hm : (T, ({ cls := .type "tuple", data := .seq A n } : Obj)) ∈ news) (e : A = #[.int i ti, .int j tj]) (e1 : i = i') (e2 : j = j') : PtIs h (.ref T) (i', j') := by
  subst e e1 e2
  have a1 := N _ hm
  exact ⟨T, ti, tj, rfl, ⟨_, a1.1, rfl, n, rfl⟩⟩
theorem ptsN {g h : Heap} {L l : Addr} {n : Nat} {news : List (Addr × Obj)} {ys : List Value} {pts : List (Int × Int)} (N : News g L h ((l, listOf ys.toArray n) :: news)) (P : Paired (PtIs h) ys pts) : PtsN g h (.ref l) pts := by
  have a1 := N _ (.head _)
  exact ⟨l, ys, n, rfl, a1.2.2, a1.1, P⟩

set_option maxHeartbeats 4000000 in
theorem round_c (hd : dp ≤ 400) (hu : un ≤ 4000) :
    Pur w dp un 247 ⟨[.int x tx, .int y ty, .int wd tw, .int ht th], []⟩ s (fun v h => PtsN s.heap h v [(x, y + ht), (x + wd, y + ht), (x + wd, y), (x, y)]) := by
  intro mean mg mb gd cn cs aa ccd cl outer A₀ base h₀ L m R B F X T hk hret
  walk_at "m_enter"
  k_steps
  walk_at "m_pre"
  with_reducible rename News s.heap _ _ _ => N9
  refine pend hret (by assumption) (ptsN (ys := [_, _, _, _]) N9 ?_)
  refine .cons (ptIs N9 (.tail _ (.tail _ (.tail _ (.tail _ (.head _))))) rfl ?_ ?_) (.cons (ptIs N9 (.tail _ (.tail _ (.tail _ (.head _)))) rfl ?_ ?_) (.cons (ptIs N9 (.tail _ (.tail _ (.head _))) rfl ?_ ?_) (.cons (ptIs N9 (.tail _ (.head _)) rfl ?_ ?_) .nil)))
  all_goals rfl
end
end

-- P6
theorem rs9 {M : Model} {A : Around} {env : Env} {E : Value → Shared → Prop} {Q : Flow → Shared → Prop} {s : Shared} (h : wpAny M A (execs [] env) Q E s) : wpAny M A (execs [] env) Q E s := by
  w_top off
  first | (walk1; done) | exact h

section
def Bd (B : Nat) (x : Int) : Prop := -(B : Int) ≤ x ∧ x ≤ (B : Int)
/-- a tuple of two ints, made since g -/
def Sec (B : Nat) (g h : Heap) (v : Value) : Prop := ∃ A C tA tC, TupN g h v [.int A tA, .int C tC] ∧ 0 ≤ C ∧ Bd (4 * B) A ∧ Bd B C
theorem sec {B : Nat} {g h : Heap} {L T : Addr} {n : Nat} {news : List (Addr × Obj)} {A C : Int} {tA tC : Tok} (N : News g L h ((T, { cls := .type "tuple", data := .seq #[.int A tA, .int C tC] n }) :: news)) (h1 : 0 ≤ C) (h2 : Bd (4 * B) A) (h3 : Bd B C) : Sec B g h (.ref T) :=
  ⟨A, C, tA, tC, tupN N rfl, h1, h2, h3⟩

section
variable {w : World} {dp un : Nat} {s : Shared} 
set_option maxHeartbeats 4000000 in
theorem second_c {p b z st ln : Int} {tp tb tz ts tl : Tok} {B : Nat} (hd : dp ≤ 400) (hu : un ≤ 4000) (hb : Bd B b) (hz : Bd B z) (hs : Bd B st) (hl : Bd B ln) (hz0 : 0 ≤ z) (hl0 : 0 ≤ ln) :
    Pur w dp un 221 ⟨[.int p tp, .int b tb, .int z tz, .int st ts, .int ln tl], []⟩ s (fun v h => Sec B s.heap h v) := by
  intro mean mg mb gd cn cs aa ccd cl outer A₀ base h₀ L m R B F X T hk hret
  walk_at "m_enter"
  k_steps
  all_goals (walk_at "m_pre"; refine pend hret (by assumption) (sec (by with_reducible assumption) ?_ ?_ ?_))
  all_goals (have e8 : ln.fdiv 8 = ln / 8 := Int.fdiv_eq_ediv_of_nonneg _ (by decide))
  all_goals first | assumption | (unfold Bd at *; omega)

/-- four ints in order, the same as those of l0 -/
structure Srt (z1 z2 z3 z4 : Int) (l0 : List Int) : Prop where
  o1 : z1 ≤ z2
  o2 : z2 ≤ z3
  o3 : z3 ≤ z4
  om : ∀ z, z ∈ [z1, z2, z3, z4] ↔ z ∈ l0
/-- acc is pre (the last first) without the doubles; t is pre's last -/
structure Dd (acc pre : List Int) (t : Int) : Prop where
  up : acc.Pairwise (· < ·)
  mem : ∀ z, z ∈ acc ↔ z ∈ pre
  top : ∀ z ∈ pre, z ≤ t
theorem Dd.one {x : Int} : Dd [x] [x] x := ⟨List.pairwise_singleton _ _, fun _ => .rfl, fun z hz => Int.le_of_eq (List.mem_singleton.mp hz)⟩
theorem Dd.skip {acc pre : List Int} {t x : Int} (I : Dd acc pre t) (hle : t ≤ x) (h : (acc.any fun e => e == x) = true) : Dd acc (x :: pre) x := by
  obtain ⟨y, hy, e⟩ := List.any_eq_true.mp h
  have e' : y = x := by simpa using e
  subst e'
  refine ⟨I.up, fun z => ?_, fun z hz => ?_⟩
  · rw [List.mem_cons, ← I.mem]
    exact ⟨.inr, fun q => q.elim (fun e => e ▸ hy) id⟩
  · rcases List.mem_cons.mp hz with q | q
    · exact Int.le_of_eq q
    · exact Int.le_trans (I.top z q) hle
theorem Dd.add {acc pre : List Int} {t x : Int} (I : Dd acc pre t) (hle : t ≤ x) (h : (acc.any fun e => e == x) = false) : Dd (acc ++ [x]) (x :: pre) x := by
  have hn : ∀ y ∈ acc, y ≠ x := fun y hy e => by
    have := List.any_eq_false.mp h y hy
    simp [e] at this
  refine ⟨List.pairwise_append.mpr ⟨I.up, List.pairwise_singleton _ _, fun y hy z hz => ?_⟩, fun z => ?_, fun z hz => ?_⟩
  · rw [List.mem_singleton.mp hz]
    have := I.top y ((I.mem y).mp hy)
    have := hn y hy
    omega
  · rw [List.mem_append, List.mem_singleton, List.mem_cons, I.mem]
    exact or_comm
  · rcases List.mem_cons.mp hz with q | q
    · exact Int.le_of_eq q
    · exact Int.le_trans (I.top z q) hle

theorem sorted4 {prog : Program} {A : Around} {E : Value → Shared → Prop} {h₀ : Heap} {L l : Addr} {m : Str → Option Value} {news : List (Addr × Obj)} {a b c d : Int} {t1 t2 t3 t4 : Tok} {n : Nat} {Q : Value → Shared → Prop}
    (F : Fr h₀ L s.heap m) (N : News h₀ L s.heap news) (hl : s.heap.get? l = some (listOf #[.int a t1, .int b t2, .int c t3, .int d t4] n))
    (h : ∀ D (z1 z2 z3 z4 : Int) (u1 u2 u3 u4 : Tok) k h', Fr h₀ L h' m → News h₀ L h' ((D, listOf #[.int z1 u1, .int z2 u2, .int z3 u3, .int z4 u4] k) :: news) → (∀ q ∈ news, q.1 < D) →
      Srt z1 z2 z3 z4 [a, b, c, d] → Q (.ref D) { s with heap := h' }) :
    wpAny (model prog w) A (call (.builtin "sorted") [.ref l]) Q E s := by
  refine kso_sorted (vs := [.int a t1, .int b t2, .int c t3, .int d t4]) (ns := [a, b, c, d]) F N ⟨_, hl, rfl, n, rfl⟩ (.cons _ _ (.cons _ _ (.cons _ _ (.cons _ _ .nil)))) (by simp) ?_
  intro D vs' ns' k h' F' N' lt hi hlen hp ho _
  match ns', hlen, hi, hp, ho with
  | [z1, z2, z3, z4], _, hi, hp, ho =>
    cases hi with | cons _ u1 hi => cases hi with | cons _ u2 hi => cases hi with | cons _ u3 hi => cases hi with | cons _ u4 hi => cases hi with | nil =>
    simp only [List.pairwise_cons, List.mem_cons, List.not_mem_nil, or_false] at ho
    exact h D z1 z2 z3 z4 u1 u2 u3 u4 k h' F' N' lt ⟨ho.1 _ (.inl rfl), ho.2.1 _ (.inl rfl), ho.2.2.1 _ rfl, fun z => hp.mem_iff⟩

local macro_rules | `(tactic| walk_at "execs cons Assign cons") => `(tactic| (k_here; (with_reducible show wpAny _ _ (execs (Stmt.Assign _ (Expr.List [] _) _ :: Stmt.For _ _ _ _ _ :: _) _) _ _ _); (with_reducible refine wpAny_execs_cons ?_); (try dsimp only)))
local macro_rules | `(tactic| walk_at "call builtin:list.append") => `(tactic| (k_here; k_dflt (refine' append_K ?k1 ?k2 ?k3 ?_ ?z; (case k1 => k_asm); (case k2 => k_asm); (case k3 => k_upd); (case z => exact Nat.le_trans (m := 4) (by simp) (by decide))); intro h' F' N'; (try k_sweep)))
local macro_rules | `(tactic| walk_at "exec For Name Call cons nil") => `(tactic| (k_here; (rename Fr _ _ _ _ => lF'); (with_unfolding_all refine' For_turns lF' ?_; k_whole)))
local macro_rules | `(tactic| walk_at "call builtin:sorted") => `(tactic| (k_here; (with_reducible show wpAny _ _ (call (Value.builtin _) [Value.ref _]) _ _ _); k_dflt (refine' sorted4 ?k1 ?k2 ?k3 ?_; (case k1 => k_asm); (case k2 => k_asm); (case k3 => walk_at "m_obj")); intro D' z1' z2' z3' z4' u1' u2' u3' u4' c' h' F' N' l1 o1'; (try k_lt l1)))

def Lines (g h : Heap) (v : Value) (l0 : List Int) : Prop := ∃ l vs n ns, v = .ref l ∧ g.get? l = none ∧ h.get? l = some (listOf vs.toArray n) ∧ IntsAre vs ns ∧ ns.Pairwise (· < ·) ∧ (∀ z, z ∈ ns ↔ z ∈ l0) ∧ ns.length ≤ 4
theorem linesE {g h : Heap} {L l D : Addr} {n : Nat} {o : Obj} {A : Array Value} {ns l0 : List Int} {z1 z2 z3 z4 : Int} (N : News g L h [(D, o), (l, listOf A n)]) (hs : Srt z1 z2 z3 z4 l0) (hd : Dd ns [z4, z3, z2, z1] z4) (hi : IntsAre A.toList ns) (h4 : Nat.ble ns.length 4 = true) : Lines g h (.ref l) l0 := by
  have a1 := N _ (.tail _ (.head _))
  refine ⟨l, A.toList, n, ns, rfl, a1.2.2, by rw [Array.toArray_toList]; exact a1.1, hi, hd.up, fun z => (hd.mem z).trans (Iff.trans ?_ (hs.om z)), Nat.le_of_ble_eq_true h4⟩
  simp only [List.mem_cons, List.not_mem_nil, or_false]
  omega
set_option maxHeartbeats 1000000 in
theorem lines_c {l : Addr} {a b c d : Int} {t1 t2 t3 t4 : Tok} {n : Nat} (hd : dp ≤ 400) (hu : un ≤ 4000) (hl : s.heap.get? l = some (listOf #[.int a t1, .int b t2, .int c t3, .int d t4] n)) :
    Pur w dp un 228 ⟨[.ref l], []⟩ s (fun v h => Lines s.heap h v [a, b, c, d]) := by
  intro mean mg mb gd cn cs aa ccd cl outer A₀ base h₀ L m R B F X T hk hret
  walk_at "m_enter"
  k_steps
  all_goals (walk_at "m_pre")
  all_goals with_reducible rename (Srt _ _ _ _ _) => hs
  all_goals first | have d2 := Dd.one.add hs.o1 (by assumption) | have d2 := Dd.one.skip hs.o1 (by assumption)
  all_goals first | have d3 := d2.add hs.o2 (by assumption) | have d3 := d2.skip hs.o2 (by assumption)
  all_goals first | have d4 := d3.add hs.o3 (by assumption) | have d4 := d3.skip hs.o3 (by assumption)
  all_goals exact pend hret (by assumption) (linesE (by with_reducible assumption) hs d4 (by with_unfolding_all first | exact .cons _ _ .nil | exact .cons _ _ (.cons _ _ .nil) | exact .cons _ _ (.cons _ _ (.cons _ _ .nil)) | exact .cons _ _ (.cons _ _ (.cons _ _ (.cons _ _ .nil)))) rfl)
end
end

-- P7
theorem rs10 {M : Model} {A : Around} {env : Env} {E : Value → Shared → Prop} {Q : Flow → Shared → Prop} {s : Shared} (h : wpAny M A (execs [] env) Q E s) : wpAny M A (execs [] env) Q E s := by
  w_top off
  first | (walk1; done) | exact h

section
section
variable {w : World} {dp un : Nat} {s : Shared} 
set_option maxHeartbeats 400000 in
theorem at_c {l : Addr} {vs : List Value} {ns : List Int} {B : Nat} {k o : Int} {tk to : Tok} (hd : dp ≤ 400) (hu : un ≤ 4000) (hL : s.heap.IsList l vs.toArray) (hi : IntsAre vs ns) (hb : ∀ z ∈ ns, Bd B z) (h64 : ns.length < 64) (hk0 : 0 ≤ k) (hk1 : k ≤ 9) (ho : Bd B o) :
    Pur w dp un 214 ⟨[.ref l, .int k tk, .int o to], []⟩ s (fun v _ => ∃ i t, v = .int i t ∧ Bd B i) := by
  intro mean mg mb gd cn cs aa ccd cl outer A₀ base h₀ L m R B F X T hk hret
  walk_at "m_enter"
  k_steps
  · walk_at "m_end"
    exact ⟨_, _, rfl, hb _ (kso_getD (by omega))⟩
  · walk_at "m_end"
    exact ⟨_, _, rfl, ho⟩
end
end

-- P8
section
/-! a value reads as data -/
def Rd (h : Heap) (v : Value) (d : PyData) : Prop := ∃ as, Reads h v d as
def Rda (h : Heap) (vs : List Value) (ds : List PyData) : Prop := ∃ as, ReadsAll h vs ds as
theorem Rda.nil {h : Heap} : Rda h [] [] := ⟨_, .nil⟩
theorem Rda.cons {h : Heap} {v : Value} {vs : List Value} {d : PyData} {ds : List PyData} (a : Rd h v d) (b : Rda h vs ds) : Rda h (v :: vs) (d :: ds) := by
  obtain ⟨_, a⟩ := a
  obtain ⟨_, b⟩ := b
  exact ⟨_, .cons a b⟩
theorem Rd.int {h : Heap} {i : Int} {t : Tok} : Rd h (.int i t) (.int i) := ⟨_, .int i t⟩
theorem Rd.none {h : Heap} : Rd h .none .none := ⟨_, .none⟩
theorem Rd.list {h : Heap} {a : Addr} {o : Obj} {vs : Array Value} {n : Nat} {xs : List PyData} (e : h.get? a = some o) (c : o.cls = .type "list") (d : o.data = .seq vs n) (r : Rda h vs.toList xs) : Rd h (.ref a) (.list xs) := by
  obtain ⟨_, r⟩ := r
  exact ⟨_, .list e c d r⟩
theorem Rd.tuple {h : Heap} {a : Addr} {o : Obj} {vs : Array Value} {n : Nat} {xs : List PyData} (e : h.get? a = some o) (c : o.cls = .type "tuple") (d : o.data = .seq vs n) (r : Rda h vs.toList xs) : Rd h (.ref a) (.tuple xs) := by
  obtain ⟨_, r⟩ := r
  exact ⟨_, .tuple e c d r⟩

def ptD (p : Int × Int) : PyData := .tuple [.int p.1, .int p.2]
theorem rd_pt {h : Heap} {y : Value} {p : Int × Int} (x : PtIs h y p) : Rd h y (ptD p) := by
  obtain ⟨T, ti, tj, rfl, o, ho, hc, n, hd⟩ := x
  exact Rd.tuple ho hc hd (.cons .int (.cons .int .nil))
theorem rda_pts {h : Heap} : ∀ {ys : List Value} {pts : List (Int × Int)}, Paired (PtIs h) ys pts → Rda h ys (pts.map ptD)
  | _, _, .nil => Rda.nil
  | _, _, .cons a b => .cons (rd_pt a) (rda_pts b)
theorem rd_pts {h : Heap} {l : Addr} {o : Obj} {ys : Array Value} {n : Nat} {pts : List (Int × Int)} (e : h.get? l = some o) (c : o.cls = .type "list") (d : o.data = .seq ys n) (x : Paired (PtIs h) ys.toList pts) : Rd h (.ref l) (.list (pts.map ptD)) :=
  Rd.list e c d (rda_pts x)

theorem eqv_pt (p q : Int × Int) : PyData.eqv (ptD p) (ptD q) = decide (p = q) := by
  obtain ⟨a, b⟩ := p
  obtain ⟨c, d⟩ := q
  rw [Bool.eq_iff_iff]
  simp [ptD, PyData.eqv, PyData.eqvAll]
theorem eqvAll_pts : ∀ (a b : List (Int × Int)), PyData.eqvAll (a.map ptD) (b.map ptD) = decide (a = b)
  | [], [] => by simp [PyData.eqvAll]
  | _ :: _, [] => by simp [PyData.eqvAll]
  | [], _ :: _ => by simp [PyData.eqvAll]
  | p :: a, q :: b => by
    rw [List.map_cons, List.map_cons, PyData.eqvAll, eqv_pt, eqvAll_pts a b, Bool.eq_iff_iff]
    simp
theorem eqv_pts (a b : List (Int × Int)) : PyData.eqv (.list (a.map ptD)) (.list (b.map ptD)) = decide (a = b) := by
  rw [PyData.eqv, eqvAll_pts]
theorem any_pts (p : Int × Int) : ∀ (a : List (Int × Int)), ((a.map ptD).any fun y => PyData.eqv y (ptD p)) = decide (p ∈ a)
  | [] => by simp
  | q :: a => by
    rw [List.map_cons, List.any_cons, any_pts p a, eqv_pt, Bool.eq_iff_iff]
    simp
    constructor
    · rintro (h | h)
      · exact .inl h.symm
      · exact .inr h
    · rintro (h | h)
      · exact .inl h.symm
      · exact .inr h
theorem lay_pts : ∀ (a : List (Int × Int)), PyData.canLayAll0 (a.map ptD) = true
  | [] => by simp [PyData.canLayAll0]
  | p :: a => by simp [PyData.canLayAll0, PyData.canLay0, ptD, lay_pts a]
theorem dep_pts : ∀ (a : List (Int × Int)), PyData.depthAll (a.map ptD) ≤ 1
  | [] => by simp [PyData.depthAll]
  | p :: a => by
    have := dep_pts a
    simp [PyData.depthAll, PyData.depth, ptD]
    omega
theorem shaped_pts (a : List (Int × Int)) : SeqAt.shaped (.list (a.map ptD)) = true := by
  have := dep_pts a
  simp [SeqAt.shaped, PyData.canLay0, lay_pts a, PyData.depth]
  omega
theorem shaped_pt (p : Int × Int) : SeqAt.shaped (ptD p) = true := by
  simp [SeqAt.shaped, PyData.canLay0, PyData.canLayAll0, PyData.depth, PyData.depthAll, ptD]

section
variable {prog : Program} {w : World} {A : Around} {E : Value → Shared → Prop} {s : Shared} {Q : Value → Shared → Prop}
theorem in_pts {y : Value} {l : Addr} {p : Int × Int} {pts : List (Int × Int)} (hy : Rd s.heap y (ptD p)) (hl : Rd s.heap (.ref l) (.list (pts.map ptD))) (hu : A.units + 65 < cLine) (h : Q (.bool (decide (p ∈ pts))) s) :
    wpAny (model prog w) A (compareOp .In y (.ref l)) Q E s := by
  obtain ⟨_, hy⟩ := hy
  obtain ⟨_, hl⟩ := hl
  refine SeqAt.in_list_reads hl hy (lay_pts pts) ?_ ?_ ?_
  · exact SeqAt.canLay_of_shaped (shaped_pt p)
  · have := dep_pts pts
    omega
  · rw [any_pts]
    exact h
theorem ne_rd {a b : Value} {da db : PyData} (ra : Rd s.heap a da) (rb : Rd s.heap b db) (ha : SeqAt.shaped da = true) (hb : SeqAt.shaped db = true) (hu : A.units + 64 < cLine) (h : Q (.bool (!PyData.eqv da db)) s) :
    wpAny (model prog w) A (compareOp .NotEq a b) Q E s := by
  obtain ⟨_, ra⟩ := ra
  obtain ⟨_, rb⟩ := rb
  exact ne_dataH ra rb ha hb hu h
theorem eq_rd {a b : Value} {da db : PyData} (ra : Rd s.heap a da) (rb : Rd s.heap b db) (ha : SeqAt.shaped da = true) (hb : SeqAt.shaped db = true) (hu : A.units + 64 < cLine) (h : Q (.bool (PyData.eqv da db)) s) :
    wpAny (model prog w) A (compareOp .Eq a b) Q E s := by
  obtain ⟨_, ra⟩ := ra
  obtain ⟨_, rb⟩ := rb
  exact eq_dataH ra rb ha hb hu h
end

/-! one statement's text after another -/
section
variable {M : Model} {A : Around} {E : Value → Shared → Prop} {env : Env} {Q : Flow → Shared → Prop}
theorem execs_append {l2 : List Stmt} : ∀ {l1 : List Stmt} {s : Shared}, wpAny M A (execs l1 env) (fun f s' => match f with | .next => wpAny M A (execs l2 env) Q E s' | f => Q f s') E s → wpAny M A (execs (l1 ++ l2) env) Q E s := by
  intro l1 s h Γ p hΓ
  have h' := h Γ p hΓ
  clear h
  induction l1 generalizing s p with
  | nil => exact h' Γ p hΓ
  | cons st r ih =>
    rw [List.cons_append]
    rw [execs_cons, Sem.wp_bind'] at h' ⊢
    refine Sem.wp_mono M Γ _ (fun f p' s' h' => ?_) (fun _ _ _ h' => h') _ _ h'
    cases f with
    | next => exact ih _ h'
    | brk => exact h'
    | cont => exact h'
    | ret v => exact h'
end

/-- the law's own text -/
def lawD : List Stmt × Scope := match PySem.Challenge.pw_jb0029_01.main.body.getLast? with
  | some (.FunctionDef _ _ body _ _ _ scope _ _ _) => (body, scope)
  | _ => ([], default)
def lawB : List Stmt := lawD.1
def lawS : Scope := lawD.2
theorem chunk {M : Model} {A : Around} {E : Value → Shared → Prop} {env : Env} {Q : Flow → Shared → Prop} {s : Shared} (i n k : Nat) (hk : i + n = k) (h : wpAny M A (execs ((lawB.drop i).take n) env) (fun f s' => match f with | .next => wpAny M A (execs (lawB.drop k) env) Q E s' | f => Q f s') E s) :
    wpAny M A (execs (lawB.drop i) env) Q E s := by
  subst hk
  rw [← List.take_append_drop n (lawB.drop i), List.drop_drop]
  exact execs_append h
end

-- P9
section
theorem abs_z {prog : Program} {w : World} {A : Around} {E : Value → Shared → Prop} {s : Shared} {i : Int} {t : Tok} {Q : Value → Shared → Prop} (h : ∀ z u tk, 0 ≤ z → -z ≤ i → i ≤ z → (z = i ∨ z = -i) → Q (.int z u) { s with toks := tk }) :
    wpAny (model prog w) A (call (.builtin "abs") [.int i t]) Q E s := by
  refine call_abs_int fun u tk => ?_
  refine h _ _ _ ?_ ?_ ?_ ?_ <;> split <;> omega
theorem idx_le {l : List Int} {x y : Int} (hp : l.Pairwise (· < ·)) (hx : x ∈ l) (hy : y ∈ l) (h : x ≤ y) : l.idxOf x ≤ l.idxOf y := by
  induction l with
  | nil => cases hx
  | cons z r ih =>
    rw [List.idxOf_cons, List.idxOf_cons]
    by_cases hzx : z = x
    · simp [hzx]
    · by_cases hzy : z = y
      · exfalso
        rcases List.mem_cons.mp hx with e | e
        · exact hzx e.symm
        · have := (List.pairwise_cons.mp hp).1 x e
          omega
      · have hx' : x ∈ r := by
          rcases List.mem_cons.mp hx with e | e
          · exact absurd e.symm hzx
          · exact e
        have hy' : y ∈ r := by
          rcases List.mem_cons.mp hy with e | e
          · exact absurd e.symm hzy
          · exact e
        have := ih (List.pairwise_cons.mp hp).2 hx' hy'
        have e1 : (z == x) = false := by simpa using hzx
        have e2 : (z == y) = false := by simpa using hzy
        rw [e1, e2]
        simpa using this
end

local macro_rules | `(tactic| walk_at "eval Call") => `(tactic| (k_here; (with_reducible show wpAny _ _ (eval (Expr.Call (Expr.Name _ _) _ [] _) _) _ _ _); k_dflt (refine Call_ ?_)))
local macro_rules | `(tactic| walk_at "m_isl") => `(tactic| first | with_reducible assumption | (refine' Fr.lst ?fk ?fl; (case fk => with_reducible assumption); (case fl => with_reducible assumption)))
local macro_rules | `(tactic| walk_at "m_bd") => `(tactic| first | with_reducible assumption | (unfold Bd at *; omega))
local macro_rules | `(tactic| walk_at "call ref") => `(tactic| (k_here; (with_reducible show wpAny _ _ (call (Value.ref 221) [_, _, _, _, _]) _ _ _); k_dflt (refine' call_pur (second_c ?hd ?hu ?b1 ?b2 ?b3 ?b4 ?z1 ?z2) ?B ?F ?X ?T ?hk ?N ?_; (walk_at "m_pur"); (case b1 => walk_at "m_bd"); (case b2 => walk_at "m_bd"); (case b3 => walk_at "m_bd"); (case b4 => walk_at "m_bd"); (case z1 => walk_at "m_bd"); (case z2 => walk_at "m_bd")); intro v' h' tk' hv' hK' F' N'; k_dflt (obtain ⟨A', C', tA', tC', ⟨T', n', q', hn', e'⟩, hC', hA', hC2'⟩ := hv'); subst q'; k_dflt (have N'' := News.add N' (by assumption) hn' e'); clear N'; (try dsimp only)))
local macro_rules | `(tactic| walk_at "call ref") => `(tactic| (k_here; (with_reducible show wpAny _ _ (call (Value.ref 228) [_]) _ _ _); k_dflt (refine' call_pur (lines_c ?hd ?hu ?a) ?B ?F ?X ?T ?hk ?N ?_; (walk_at "m_pur"); (case a => walk_at "m_obj")); intro v' h' tk' hv' hK' F' N'; k_dflt (obtain ⟨l', vs', n', ns', q', hn', e', hi', hp', hm', h4'⟩ := hv'); subst q'; k_dflt (have N'' := News.add N' (by assumption) hn' e'); clear N'; (try dsimp only)))
local macro_rules | `(tactic| walk_at "call builtin:abs") => `(tactic| ((with_reducible refine abs_z ?_); intro z' u' tk' hz0' hz1' hz2' hz3'))
local macro_rules | `(tactic| walk_at "call ref") => `(tactic| (k_here; (with_reducible show wpAny _ _ (call (Value.ref 214) [_, _, _]) _ _ _); k_dflt (refine' call_pur (at_c ?hd ?hu ?hL ?hi ?hb ?h64 ?k0 ?k1 ?ho) ?B ?F ?X ?T ?hk ?N ?_; (walk_at "m_pur"); (case hL => walk_at "m_isl"); (case hi => with_reducible assumption); (case hb => with_reducible assumption); (case h64 => with_reducible assumption); (case k0 => decide); (case k1 => decide); (case ho => walk_at "m_bd")); intro v' h' tk' hv' hK' F' N'; obtain ⟨i', t', e', hbd'⟩ := hv'; subst e'; (try dsimp only)))
theorem rs11 {M : Model} {A : Around} {env : Env} {E : Value → Shared → Prop} {Q : Flow → Shared → Prop} {s : Shared} (h : wpAny M A (execs [] env) Q E s) : wpAny M A (execs [] env) Q E s := by
  w_top off
  first | (walk1; done) | exact h

section
section
variable {w : World} {dp un : Nat} {gd : Option (List Code)} {cn : Str} {cs : Scope} {L aa c0 : Addr} {ccd : Value} {outer : List Env} {A₀ : Around} {base h₀ : Heap} {m0 : Str → Option Value} {mean : ExcName → Option Value} {mg mb : Str → Option Value} {s : Shared} {E : Value → Shared → Prop} {st : List Stmt}

theorem newsC {h₀ h : Heap} {L a : Addr} {o : Obj} {news rest : List (Addr × Obj)} (N : News h₀ L h news) (hm : (a, o) ∈ news) (R : News h₀ L h rest) : News h₀ L h ((a, o) :: rest) := by
  intro p hp
  rcases List.mem_cons.mp hp with rfl | hp
  · exact N _ hm
  · exact R p hp
set_option maxHeartbeats 1000000 in
theorem chunkA1 {l : Addr} {vs : List Value} {ns : List Int} {B : Nat} {oc : Obj} {Q : Flow → Shared → Prop} (hst : st = (lawB.drop 0).take 7) (hcs : cs = lawS) (hd : dp ≤ 310) (hu : un ≤ 1000) (hb : Below A₀ base outer h₀) (X : (Mine.K0 w.params).In h₀) (T : Top Mine.Vw (looseW Mine.Vw [Str.ofString "Rectangle"]) mean mg mb h₀)
    (F : Fr h₀ L s.heap (fun y => if y = Str.ofString "script" then some (.ref l) else m0 y)) (N : News h₀ L s.heap [(c0, oc)])
    (hL : h₀.IsList l vs.toArray) (hi : IntsAre vs ns) (h64 : ns.length < 64) (hbs : ∀ z ∈ ns, Bd B z) (hB : 100 ≤ B)
    (hk : ∀ (x wd y ht a c b d : Int) (tx tw ty th ta tc tb td : Tok) (lc lr one done two dtwo : Addr) (cvs rvs : List Value) (nc nr : Nat) (cols rows : List Int) (ka kb kc kd ke ja jb jc jd je : Tok) (h' : Heap) (tk' : Nat), Fr h₀ L h' (fun q => if q = Str.ofString "two" then some (.ref two) else if q = Str.ofString "one" then some (.ref one) else if q = Str.ofString "rows" then some (.ref lr) else if q = Str.ofString "columns" then some (.ref lc) else if q = Str.ofString "d" then some (.int d td) else if q = Str.ofString "b" then some (.int b tb) else if q = Str.ofString "c" then some (.int c tc) else if q = Str.ofString "a" then some (.int a ta) else if q = Str.ofString "h" then some (.int ht th) else if q = Str.ofString "y" then some (.int y ty) else if q = Str.ofString "w" then some (.int wd tw) else if q = Str.ofString "x" then some (.int x tx) else if q = Str.ofString "script" then some (.ref l) else m0 q) → News h₀ L h' [(one, instObj 203 done), (done, rd w.params ka kb kc kd ke x y wd ht tx ty tw th), (two, instObj 203 dtwo), (dtwo, rd w.params ja jb jc jd je a b c d ta tb tc td), (lc, listOf cvs.toArray nc), (lr, listOf rvs.toArray nr), (c0, oc)] →
      IntsAre cvs cols → cols.Pairwise (· < ·) → (∀ z, z ∈ cols ↔ z ∈ [x, x + wd, a, a + c]) → cols.length ≤ 4 → IntsAre rvs rows → rows.Pairwise (· < ·) → (∀ z, z ∈ rows ↔ z ∈ [y, y + ht, b, b + d]) → rows.length ≤ 4 →
      0 ≤ wd → 0 ≤ ht → 0 ≤ c → 0 ≤ d → Bd (4 * B) x → Bd (4 * B) y → Bd (4 * B) wd → Bd (4 * B) ht → Bd (4 * B) a → Bd (4 * B) b → Bd (4 * B) c → Bd (4 * B) d → done ≠ dtwo → Q .next { s with heap := h', toks := tk' }) :
    wpAny (model PySem.Challenge.rw_jb0029_01.row.prog w) (ktrTop dp un gd cn cs L aa ccd [(Str.ofString "other", c0)] outer) (execs st (envX cn cs L aa ccd [(Str.ofString "other", c0)])) Q E s := by
  have hst2 : st = [_, _, _, _, _, _, _] := hst
  have hcs2 : cs = Scope.mk _ _ _ _ _ := hcs
  subst hst2 hcs2
  clear hst hcs
  k_steps
  (try dsimp only)
  refine' hk _ _ _ _ _ _ _ _ _ _ _ _ _ _ _ _ _ _ _ _ _ _ _ _ _ _ _ _ _ _ _ _ _ _ _ _ _ _ _ _ ?F ?N ?i1 ?_ ?_ ?_ ?i2 ?_ ?_ ?_ ?_ ?_ ?_ ?_ ?_ ?_ ?_ ?_ ?_ ?_ ?_ ?_ ?nd
  case F => k_asm
  case N => exact newsC (by k_asm) (by k_mem) (newsC (by k_asm) (by k_mem) (newsC (by k_asm) (by k_mem) (newsC (by k_asm) (by k_mem) (newsC (by k_asm) (by k_mem) (newsC (by k_asm) (by k_mem) (newsC (by k_asm) (by k_mem) News.nil))))))
  case i1 => with_reducible assumption
  case i2 => with_reducible assumption
  case nd =>
    with_reducible rename (_ < _ ∧ _ < _ ∧ _) => lz
    exact Nat.ne_of_lt lz.2.1
  all_goals first | with_reducible assumption | (unfold Bd at *; omega)
end
end

-- P10
section
theorem mem_by {l l0 : List Int} {z : Int} (hm : ∀ z, z ∈ l ↔ z ∈ l0) (h : z ∈ l0) : z ∈ l := (hm z).mpr h

/-- a pair of ints at a value, by a ledger -/
def PtS (g : Heap) (imm : List (Addr × Obj)) (y : Value) (p : Int × Int) : Prop := ∃ T ob n ti tj, y = .ref T ∧ (g.get? T = some ob ∨ (T, ob) ∈ imm) ∧ ob.cls = .type "tuple" ∧ ob.data = .seq #[.int p.1 ti, .int p.2 tj] n
theorem pt_stable {g h : Heap} {C : Addr} {u : Str → Option Value} {imm : List (Addr × Obj)} {y : Value} {p : Int × Int} (F : Fr g C h u) (W : ∀ b o, b ≠ C → g.get? b = none → h.get? b = some o → (b, o) ∈ imm) (x : PtIs h y p) : PtS g imm y p := by
  obtain ⟨T, ti, tj, rfl, ob, ho, hc, n, hd⟩ := x
  refine ⟨T, ob, n, ti, tj, rfl, ?_, hc, hd⟩
  cases q : g.get? T with
  | some o' =>
    have := F.keep _ _ q
    rw [ho] at this
    exact .inl this.symm
  | none =>
    refine .inr (W T ob ?_ q ho)
    rintro rfl
    obtain ⟨o, es, ep, ho', hd', _⟩ := F.ns
    rw [ho] at ho'
    cases ho'
    rw [hd] at hd'
    cases hd'
theorem pts_stable {g h : Heap} {C : Addr} {u : Str → Option Value} {imm : List (Addr × Obj)} {ys : List Value} {ps : List (Int × Int)} (F : Fr g C h u) (W : ∀ b o, b ≠ C → g.get? b = none → h.get? b = some o → (b, o) ∈ imm) (x : Paired (PtIs h) ys ps) : Paired (PtS g imm) ys ps :=
  x.mono fun _ _ hy => pt_stable F W hy
theorem PtS.is {g h : Heap} {L : Addr} {m : Str → Option Value} {imm news : List (Addr × Obj)} {y : Value} {p : Int × Int} (F : Fr g L h m) (N : News g L h news) (hs : ∀ q ∈ imm, q ∈ news) (x : PtS g imm y p) : PtIs h y p := by
  obtain ⟨T, ob, n, ti, tj, rfl, hT, hc, hd⟩ := x
  refine ⟨T, ti, tj, rfl, ob, ?_, hc, n, hd⟩
  rcases hT with e | e
  · exact F.keep _ _ e
  · exact (N _ (hs _ e)).1
theorem ptsS {g h : Heap} {L : Addr} {m : Str → Option Value} {imm news : List (Addr × Obj)} {ys : List Value} {ps : List (Int × Int)} (F : Fr g L h m) (N : News g L h news) (hs : ∀ q ∈ imm, q ∈ news) (x : Paired (PtS g imm) ys ps) : Paired (PtIs h) ys ps :=
  x.mono fun _ _ hy => hy.is F N hs
theorem newsApp {g h : Heap} {L : Addr} {a b : List (Addr × Obj)} (A : News g L h a) (B : News g L h b) : News g L h (a ++ b) := fun p hp => by
  rcases List.mem_append.mp hp with e | e
  · exact A p e
  · exact B p e

def isSeqD : Data → Bool
  | .seq _ _ => true
  | _ => false
theorem noSeq {o : Obj} {v : Option Value} (e : o.data = .cell v) : isSeqD o.data = false := by rw [e]; rfl
theorem pts_ledger {g h : Heap} {C : Addr} {u : Str → Option Value} {ys : List Value} {ps : List (Int × Int)} (F : Fr g C h u) (x : Paired (PtIs h) ys ps) :
    ∃ imm, News g C h imm ∧ Paired (PtS g imm) ys ps ∧ ∀ q ∈ imm, isSeqD q.2.data = true := by
  obtain ⟨news, N, W⟩ := whole F
  refine ⟨news.filter fun q => isSeqD q.2.data, fun p hp => N p (List.mem_filter.mp hp).1, x.mono fun y p hy => ?_, fun q hq => (List.mem_filter.mp hq).2⟩
  obtain ⟨T, ob, n, ti, tj, e, hT, hc, hd⟩ := pt_stable F W hy
  refine ⟨T, ob, n, ti, tj, e, ?_, hc, hd⟩
  rcases hT with hT | hT
  · exact .inl hT
  · refine .inr (List.mem_filter.mpr ⟨hT, ?_⟩)
    show isSeqD ob.data = true
    rw [hd]
    rfl
theorem seq_ne {g h : Heap} {L p : Addr} {o : Obj} {news imm : List (Addr × Obj)} (N : News g L h news) (hm : (p, o) ∈ news) (ho : isSeqD o.data = false) (NI : News g L h imm) (hI : ∀ q ∈ imm, isSeqD q.2.data = true) : ∀ q ∈ imm, q.1 ≠ p := by
  intro q hq e
  have a := (N _ hm).1
  have b := (NI _ hq).1
  dsimp only at a
  rw [← e, b] at a
  cases a
  rw [hI q hq] at ho
  cases ho

def kindD : Data → Nat
  | .seq _ _ => 0
  | .dict _ _ => 1
  | .cell _ => 2
  | _ => 3
theorem kind_neE {g h : Heap} {L a b : Addr} {o1 o2 : Obj} {d1 d2 : Data} {news : List (Addr × Obj)} (N : News g L h news) (m1 : (a, o1) ∈ news) (m2 : (b, o2) ∈ news) (e1 : o1.data = d1) (e2 : o2.data = d2) (k : (kindD d1 == kindD d2) = false) : a ≠ b := by
  rintro rfl
  have x := (N _ m1).1
  have y := (N _ m2).1
  dsimp only at x y
  rw [x] at y
  cases y
  rw [e1] at e2
  subst e2
  simp at k
end

-- P11, ahead
section
theorem Rd.up {h h' : Heap} {v : Value} {d : PyData} (K : Kp h h') (x : Rd h v d) : Rd h' v d := by
  obtain ⟨_, x⟩ := x
  exact ⟨_, Reads.keeps K x⟩
theorem rd_up {g h : Heap} {C : Addr} {u : Str → Option Value} {v : Value} {d : PyData} (F : Fr g C h u) (x : Rd g v d) : Rd h v d := Rd.up F.keep x
theorem PtIs.uniq {h : Heap} {v : Value} {p q : Int × Int} (x : PtIs h v p) (y : PtIs h v q) : p = q := by
  obtain ⟨T, ti, tj, rfl, o, ho, _, n, hd⟩ := x
  obtain ⟨T', ti', tj', e, o', ho', _, n', hd'⟩ := y
  cases e
  rw [ho] at ho'
  cases ho'
  rw [hd] at hd'
  injection hd' with e _
  have e1 := congrArg Array.toList e
  simp at e1
  exact Prod.ext e1.1.1 e1.2.1
/-- the test by a pair, told on values -/
noncomputable def byPt (h : Heap) (f : Int × Int → Bool) (v : Value) : Bool := @decide (∃ p, PtIs h v p ∧ f p = true) (Classical.propDecidable _)
theorem byPt_is {h : Heap} {f : Int × Int → Bool} {v : Value} {p : Int × Int} (x : PtIs h v p) : byPt h f v = f p := by
  unfold byPt
  cases hf : f p with
  | true => exact @decide_eq_true _ (Classical.propDecidable _) ⟨p, x, hf⟩
  | false =>
    refine @decide_eq_false _ (Classical.propDecidable _) ?_
    rintro ⟨q, y, e⟩
    rw [x.uniq y, e] at hf
    cases hf
theorem paired_mem {α β : Type} {G : α → β → Prop} {v : α} : ∀ {ys : List α} {ps : List β}, Paired G ys ps → v ∈ ys → ∃ p, p ∈ ps ∧ G v p
  | _, _, .nil, h => by cases h
  | _, _, .cons a b, h => by
    rcases List.mem_cons.mp h with rfl | h
    · exact ⟨_, .head _, a⟩
    · obtain ⟨p, hp, e⟩ := paired_mem b h
      exact ⟨p, .tail _ hp, e⟩
theorem paired_filter {h : Heap} {f : Int × Int → Bool} : ∀ {ys : List Value} {ps : List (Int × Int)}, Paired (PtIs h) ys ps → Paired (PtIs h) (ys.filter (byPt h f)) (ps.filter f)
  | _, _, .nil => .nil
  | _, _, .cons a b => by
    rw [List.filter_cons, List.filter_cons, byPt_is a]
    split
    · exact .cons a (paired_filter b)
    · exact paired_filter b
theorem paired_eq {ys zs : List Value} (h : Paired (fun v y => y = v) ys zs) : zs = ys := by
  induction h with
  | nil => rfl
  | cons a _ ih => rw [a, ih]
theorem grid_len (p q p' q' : Nat) : (grid p q p' q').length = (2 * q + 1 - 2 * p) * (2 * q' + 1 - 2 * p') := by
  unfold grid
  induction (2 * q + 1 - 2 * p) with
  | zero => simp
  | succ n ih =>
    rw [List.range_succ, List.flatMap_append, List.length_append, ih, Nat.succ_mul n (2 * q' + 1 - 2 * p')]
    simp only [List.flatMap_cons, List.flatMap_nil, List.append_nil, List.length_map, List.length_range]
theorem grid_small {p q p' q' : Nat} (hq : q ≤ 4) (hq' : q' ≤ 4) : (grid p q p' q').length ≤ 81 := by
  rw [grid_len]
  have : (2 * q + 1 - 2 * p) * (2 * q' + 1 - 2 * p') ≤ 9 * 9 := Nat.mul_le_mul (by omega) (by omega)
  omega
theorem tests1 {M : Model} {A : Around} {E : Value → Shared → Prop} {s : Shared} {c : Expr} {cenv : Env} {Q : Bool → Shared → Prop} (h : wpAny M A (isTrue c cenv (eval c cenv)) Q E s) :
    wpAny M A (forIn [c] true fun c r => if r = true then do let ok ← isTrue c cenv (eval c cenv); pure (ForInStep.yield ok) else pure (ForInStep.yield r)) Q E s := by
  simp only [List.forIn_cons, List.forIn_nil, if_true]
  refine wpAny_bind (wpAny_bind (wpAny_mono h (fun ok s' hq => ?_) fun _ _ e => e))
  exact wpAny_pure (wpAny_pure hq)

theorem frK {h₀ h h' : Heap} {L : Addr} {m m' : Str → Option Value} (F : Fr h₀ L h m) (K : KpB [L] h h') (hn : h'.Ns L m') : Fr h₀ L h' m' := by
  refine ⟨hn, fun b o e => K b o ?_ (F.keep b o e), F.above⟩
  intro hm
  rw [List.mem_singleton.mp hm] at e
  exact absurd (Heap.lt_size e) (Nat.not_lt.mpr F.above)
theorem newsK {h₀ h h' : Heap} {L : Addr} {news : List (Addr × Obj)} (N : News h₀ L h news) (K : KpB [L] h h') : News h₀ L h' news := fun p hp =>
  ⟨K _ _ (fun hm => (N p hp).2.1 (List.mem_singleton.mp hm)) (N p hp).1, (N p hp).2⟩
theorem pt_kpb {h₀ h h' : Heap} {L : Addr} {m : Str → Option Value} {v : Value} {p : Int × Int} (F : Fr h₀ L h m) (K : KpB [L] h h') (x : PtIs h v p) : PtIs h' v p := by
  obtain ⟨T, ti, tj, e, ob, ho, hc, n, hd⟩ := x
  refine ⟨T, ti, tj, e, ob, K T ob ?_ ho, hc, n, hd⟩
  intro hm
  rw [List.mem_singleton.mp hm] at ho
  obtain ⟨o, es, ep, ho', hd', _⟩ := F.ns
  rw [ho] at ho'
  cases ho'
  rw [hd] at hd'
  cases hd'
theorem paired_kpb {h₀ h h' : Heap} {L : Addr} {m : Str → Option Value} {ys : List Value} {ps : List (Int × Int)} (F : Fr h₀ L h m) (K : KpB [L] h h') (x : Paired (PtIs h) ys ps) : Paired (PtIs h') ys ps := x.mono fun _ _ hy => pt_kpb F K hy
end

-- P12, ahead
section
theorem isTup_up {g h : Heap} {C T : Addr} {u : Str → Option Value} {xs : Array Value} (F : Fr g C h u) (x : g.IsTuple T xs) : IsTup h T xs := by
  obtain ⟨o, ho, r⟩ := x
  exact ⟨o, F.keep _ _ ho, r⟩
theorem pt_item0 {prog : Program} {w : World} {A : Around} {E : Value → Shared → Prop} {s : Shared} {value slice : Expr} {t : Addr} {a b : Value} {u : Tok} {Q : Value → Shared → Prop} (ht : IsTup s.heap t #[a, b]) (h : Q a s)
    (hs : subscripted slice false (.ref t) (.int 0 u) = operate [.ref t, .int 0 u] (getItem (.ref t) (.int 0 u))) (hg : ∀ r, letTemporaryGo value (.ref t) r = pure ()) : wpAny (model prog w) A (subscriptTail value slice (.ref t) (.int 0 u)) Q E s :=
  item_tuple (j := 0) (x := a) ht (by decide) (by decide) rfl rfl h hs hg
theorem pt_item1 {prog : Program} {w : World} {A : Around} {E : Value → Shared → Prop} {s : Shared} {value slice : Expr} {t : Addr} {a b : Value} {u : Tok} {Q : Value → Shared → Prop} (ht : IsTup s.heap t #[a, b]) (h : Q b s)
    (hs : subscripted slice false (.ref t) (.int 1 u) = operate [.ref t, .int 1 u] (getItem (.ref t) (.int 1 u))) (hg : ∀ r, letTemporaryGo value (.ref t) r = pure ()) : wpAny (model prog w) A (subscriptTail value slice (.ref t) (.int 1 u)) Q E s :=
  item_tuple (j := 1) (x := b) ht (by decide) (by decide) rfl rfl h hs hg
def odd2 (p : Int × Int) : Bool := decide (p.1.fmod 2 = 1 ∧ p.2.fmod 2 = 1)
end

-- P13, ahead
section
theorem len_obj {prog : Program} {w : World} {A : Around} {E : Value → Shared → Prop} {s : Shared} {h₀ : Heap} {L l : Addr} {o : Obj} {news : List (Addr × Obj)} {xs : Array Value} {n : Nat} {Q : Value → Shared → Prop} (N : News h₀ L s.heap news) (hm : (l, o) ∈ news) (hc : o.cls = .type "list") (hd : o.data = .seq xs n) (hf : xs.size ≤ 81)
    (h : ∀ t tk, Q (.int (xs.size : Nat) t) { s with toks := tk }) : wpAny (model prog w) A (call (.builtin "len") [.ref l]) Q E s :=
  Calls.call_len_list ⟨o, (N _ hm).1, hc, n, hd⟩ (by omega) (h _ _)
theorem sub_tail {α : Type} {a : α} {l r : List α} (h : ∀ q ∈ l, q ∈ r) : ∀ q ∈ l, q ∈ a :: r := fun q hq => .tail _ (h q hq)
theorem sub_refl {α : Type} {l : List α} : ∀ q ∈ l, q ∈ l := fun _ h => h
end

-- P14, ahead
section
/-- an int, told of a pair at a value -/
def PtF (f : Int × Int → Int) (g : Heap) (imm : List (Addr × Obj)) (v y : Value) : Prop := ∃ p t, PtS g imm v p ∧ y = .int (f p) t
theorem PtS.uniq {g h : Heap} {L : Addr} {m : Str → Option Value} {imm news : List (Addr × Obj)} {v : Value} {p q : Int × Int} (F : Fr g L h m) (N : News g L h news) (hs : ∀ q ∈ imm, q ∈ news) (x : PtS g imm v p) (y : PtS g imm v q) : p = q :=
  (x.is F N hs).uniq (y.is F N hs)
theorem ptF_ints {f : Int × Int → Int} {g h : Heap} {L : Addr} {m : Str → Option Value} {imm news : List (Addr × Obj)} (F : Fr g L h m) (N : News g L h news) (hs : ∀ q ∈ imm, q ∈ news) : ∀ {ys zs : List Value} {ps : List (Int × Int)}, Paired (PtF f g imm) ys zs → Paired (PtS g imm) ys ps → IntsAre zs (ps.map f)
  | _, _, _, .nil, .nil => .nil
  | _, _, _, .cons ⟨q, t, hq, e⟩ b, .cons a b' => by
    subst e
    rw [hq.uniq F N hs a]
    exact .cons _ _ (ptF_ints F N hs b b')
end

-- P15, ahead
section
section
variable {prog : Program} {w : World} {A : Around} {E : Value → Shared → Prop} {s : Shared} {h₀ : Heap} {L l : Addr} {m : Str → Option Value} {o : Obj} {news imm : List (Addr × Obj)} {xs : Array Value} {n : Nat} {Q : Value → Shared → Prop}
theorem rd_list {ps : List (Int × Int)} (F : Fr h₀ L s.heap m) (N : News h₀ L s.heap news) (hm : (l, o) ∈ news) (hc : o.cls = .type "list") (hd : o.data = .seq xs n) (PS : Paired (PtS h₀ imm) xs.toList ps) (hs : ∀ q ∈ imm, q ∈ news) : Rd s.heap (.ref l) (.list (ps.map ptD)) :=
  rd_pts (N.get hm) hc hd (ptsS F N hs PS)
theorem ne_nil {ps : List (Int × Int)} {l2 : Addr} {k : Nat} (F : Fr h₀ L s.heap m) (N : News h₀ L s.heap news) (hm : (l, o) ∈ news) (hc : o.cls = .type "list") (hd : o.data = .seq xs n) (PS : Paired (PtS h₀ imm) xs.toList ps) (hs : ∀ q ∈ imm, q ∈ news)
    (hm2 : (l2, listOf #[] k) ∈ news) (hu : A.units + 64 < cLine) (h : Q (.bool (decide (ps ≠ []))) s) : wpAny (model prog w) A (compareOp .NotEq (.ref l) (.ref l2)) Q E s := by
  refine ne_rd (rd_list F N hm hc hd PS hs) (Rd.list (vs := #[]) (xs := []) (N.get hm2) rfl rfl Rda.nil) (shaped_pts ps) (shaped_pts []) hu ?_
  have := eqv_pts ps []
  rw [List.map_nil] at this
  rw [this]
  have e : (!decide (ps = [])) = decide (ps ≠ []) := by simp
  rw [e]
  exact h
theorem min_obj {ns : List Int} {b : Nat} (F : Fr h₀ L s.heap m) (N : News h₀ L s.heap news) (hm : (l, o) ∈ news) (hc : o.cls = .type "list") (hd : o.data = .seq xs n) (hi : IntsAre xs.toList ns) (hne : ns ≠ []) (hh : A.handled = none) (hb : ∀ z ∈ ns, 0 ≤ z.fdiv 2 ∧ z.fdiv 2 < (b : Int))
    (h : ∀ h' M (t : Tok) tk, Fr h₀ L h' m → News h₀ L h' news → M ∈ ns → (∀ a, a ∈ ns → M ≤ a) → 0 ≤ M.fdiv 2 → M.fdiv 2 < (b : Int) → Q (.int M t) { s with heap := h', toks := tk }) : wpAny (model prog w) A (call (.builtin "min") [.ref l]) Q E s :=
  kso_min (vs := xs.toList) F N ⟨o, N.get hm, hc, n, by rw [Array.toArray_toList]; exact hd⟩ hi (List.length_pos_iff.mpr hne) hh fun h' M t tk a1 a2 a3 a4 => h h' M t tk a1 a2 a3 a4 (hb M a3).1 (hb M a3).2
theorem max_obj {ns : List Int} {b : Nat} (F : Fr h₀ L s.heap m) (N : News h₀ L s.heap news) (hm : (l, o) ∈ news) (hc : o.cls = .type "list") (hd : o.data = .seq xs n) (hi : IntsAre xs.toList ns) (hne : ns ≠ []) (hh : A.handled = none) (hb : ∀ z ∈ ns, 0 ≤ z.fdiv 2 ∧ z.fdiv 2 < (b : Int))
    (h : ∀ h' M (t : Tok) tk, Fr h₀ L h' m → News h₀ L h' news → M ∈ ns → (∀ a, a ∈ ns → a ≤ M) → 0 ≤ M.fdiv 2 → M.fdiv 2 < (b : Int) → Q (.int M t) { s with heap := h', toks := tk }) : wpAny (model prog w) A (call (.builtin "max") [.ref l]) Q E s :=
  kso_max (vs := xs.toList) F N ⟨o, N.get hm, hc, n, by rw [Array.toArray_toList]; exact hd⟩ hi (List.length_pos_iff.mpr hne) hh fun h' M t tk a1 a2 a3 a4 => h h' M t tk a1 a2 a3 a4 (hb M a3).1 (hb M a3).2
theorem newsSub {h : Heap} (N : News h₀ L h news) (hs : ∀ q ∈ imm, q ∈ news) : News h₀ L h imm := fun p hp => N p (hs p hp)
theorem Fr.eqm {h : Heap} {m' : Str → Option Value} (F : Fr h₀ L h m) (e : ∀ q, m q = m' q) : Fr h₀ L h m' := by
  have : m = m' := funext e
  exact this ▸ F
end

theorem fr5_0 {m4 : Str → Option Value} {k k1 k2 : Str} {dv v1 v2 : Option Value} (h1 : m4 k1 = v1) (h2 : m4 k2 = v2) : ∀ q, (if q = k then dv else m4 q) = (if q = k then dv else if q = k1 then v1 else if q = k2 then v2 else m4 q) := by
  intro q
  by_cases a : q = k1
  · subst a
    simp [h1]
  · by_cases b : q = k2
    · subst b
      simp [h2, a]
    · simp [a, b]
theorem fr5_1 {m4 : Str → Option Value} {k k1 k2 : Str} {dv dv' v1 v2 : Option Value} : ∀ q, (if q = k then dv else if q = k1 then v1 else if q = k2 then v2 else if q = k then dv' else m4 q) = (if q = k then dv else if q = k1 then v1 else if q = k2 then v2 else m4 q) := by
  intro q
  by_cases a : q = k
  · simp [a]
  · simp [a]
end

-- P16, ahead
section
section
variable {prog : Program} {w : World} {A : Around} {E : Value → Shared → Prop} {s : Shared} {h₀ : Heap} {L : Addr} {news : List (Addr × Obj)} {Q : Value → Shared → Prop}
theorem rda_ints {h : Heap} : ∀ {vs : List Value} {ns : List Int}, IntsAre vs ns → Rda h vs (ns.map .int)
  | _, _, .nil => Rda.nil
  | _, _, .cons _ _ b => .cons .int (rda_ints b)
theorem ne_tup4 {T1 T2 : Addr} {n1 n2 : Nat} {a1 a2 a3 a4 b1 b2 b3 b4 : Int} {s1 s2 s3 s4 t1 t2 t3 t4 : Tok} (N : News h₀ L s.heap news) (m1 : (T1, ({ cls := .type "tuple", data := .seq [.int a1 s1, .int a2 s2, .int a3 s3, .int a4 s4].toArray n1 } : Obj)) ∈ news)
    (m2 : (T2, ({ cls := .type "tuple", data := .seq [.int b1 t1, .int b2 t2, .int b3 t3, .int b4 t4].toArray n2 } : Obj)) ∈ news) (hu : A.units + 64 < cLine) (h : Q (.bool (!decide (a1 = b1 ∧ a2 = b2 ∧ a3 = b3 ∧ a4 = b4))) s) : wpAny (model prog w) A (compareOp .NotEq (.ref T1) (.ref T2)) Q E s := by
  refine ne_rd (da := .tuple ([a1, a2, a3, a4].map .int)) (db := .tuple ([b1, b2, b3, b4].map .int)) (Rd.tuple (N.get m1) rfl rfl (rda_ints (.cons _ _ (.cons _ _ (.cons _ _ (.cons _ _ .nil)))))) (Rd.tuple (N.get m2) rfl rfl (rda_ints (.cons _ _ (.cons _ _ (.cons _ _ (.cons _ _ .nil)))))) ?_ ?_ hu ?_
  · simp [SeqAt.shaped, PyData.canLay0, PyData.canLayAll0, PyData.depth, PyData.depthAll]
  · simp [SeqAt.shaped, PyData.canLay0, PyData.canLayAll0, PyData.depth, PyData.depthAll]
  · have e : PyData.eqv (.tuple ([a1, a2, a3, a4].map .int)) (.tuple ([b1, b2, b3, b4].map .int)) = decide (a1 = b1 ∧ a2 = b2 ∧ a3 = b3 ∧ a4 = b4) := by
      rw [Bool.eq_iff_iff]
      simp [PyData.eqv, PyData.eqvAll]
    rw [e]
    exact h
theorem ne_none (hu : A.units + 64 < cLine) (h : Q (.bool false) s) : wpAny (model prog w) A (compareOp .NotEq .none .none) Q E s := by
  refine ne_rd Rd.none Rd.none (by decide) (by decide) hu ?_
  have e : PyData.eqv .none .none = true := by simp [PyData.eqv]
  rw [e]
  exact h
end
end

-- P18, ahead
section
section
variable {prog : Program} {w : World} {A : Around} {E : Value → Shared → Prop} {s : Shared} {h₀ : Heap} {L : Addr} {news : List (Addr × Obj)} {Q : Value → Shared → Prop}
theorem eq_tup4 {T1 T2 : Addr} {n1 n2 : Nat} {a1 a2 a3 a4 b1 b2 b3 b4 : Int} {s1 s2 s3 s4 t1 t2 t3 t4 : Tok} (N : News h₀ L s.heap news) (m1 : (T1, ({ cls := .type "tuple", data := .seq [.int a1 s1, .int a2 s2, .int a3 s3, .int a4 s4].toArray n1 } : Obj)) ∈ news)
    (m2 : (T2, ({ cls := .type "tuple", data := .seq [.int b1 t1, .int b2 t2, .int b3 t3, .int b4 t4].toArray n2 } : Obj)) ∈ news) (hu : A.units + 64 < cLine) (h : Q (.bool (decide (a1 = b1 ∧ a2 = b2 ∧ a3 = b3 ∧ a4 = b4))) s) : wpAny (model prog w) A (compareOp .Eq (.ref T1) (.ref T2)) Q E s := by
  refine eq_rd (da := .tuple ([a1, a2, a3, a4].map .int)) (db := .tuple ([b1, b2, b3, b4].map .int)) (Rd.tuple (N.get m1) rfl rfl (rda_ints (.cons _ _ (.cons _ _ (.cons _ _ (.cons _ _ .nil)))))) (Rd.tuple (N.get m2) rfl rfl (rda_ints (.cons _ _ (.cons _ _ (.cons _ _ (.cons _ _ .nil)))))) ?_ ?_ hu ?_
  · simp [SeqAt.shaped, PyData.canLay0, PyData.canLayAll0, PyData.depth, PyData.depthAll]
  · simp [SeqAt.shaped, PyData.canLay0, PyData.canLayAll0, PyData.depth, PyData.depthAll]
  · have e : PyData.eqv (.tuple ([a1, a2, a3, a4].map .int)) (.tuple ([b1, b2, b3, b4].map .int)) = decide (a1 = b1 ∧ a2 = b2 ∧ a3 = b3 ∧ a4 = b4) := by
      rw [Bool.eq_iff_iff]
      simp [PyData.eqv, PyData.eqvAll]
    rw [e]
    exact h
end
theorem cmpBack_bool {Q : Value → Shared → Prop} {b : Bool} {s : Shared} (h : Q (.bool b) s) : PySem.W.CmpBack Q (.bool b) s := h
theorem eq_perm {x y wd ht a b c d : Int} : decide (wd = c ∧ ht = d ∧ x = a ∧ y = b) = decide (x = a ∧ y = b ∧ wd = c ∧ ht = d) := by
  rw [decide_eq_decide]
  omega
end

-- P22a, ahead
section
/-- after two failed tests of containment, what the third case leaves -/
theorem join_cases {x y wd ht a b c d : Int} (z1 : 0 ≤ wd) (z2 : 0 ≤ ht) (z3 : 0 ≤ c) (z4 : 0 ≤ d)
    (kj : (y ≤ b ∧ x ≤ a ∧ b + d ≤ y + ht ∧ a + c ≤ x + wd) ∨ (b ≤ y ∧ a ≤ x ∧ y + ht ≤ b + d ∧ x + wd ≤ a + c) ∨ ((y ≤ b + d ∧ b ≤ y + ht ∧ x ≤ a + c ∧ a ≤ x + wd) ∧ ((x = a ∧ wd = c) ∨ (y = b ∧ ht = d))))
    (nA : ¬ (y ≤ b ∧ x ≤ a ∧ b + d ≤ y + ht ∧ a + c ≤ x + wd)) (nB : ¬ (b ≤ y ∧ a ≤ x ∧ y + ht ≤ b + d ∧ x + wd ≤ a + c)) :
    (y ≤ b + d ∧ b ≤ y + ht ∧ x ≤ a + c ∧ a ≤ x + wd) ∧ (x = a → wd = c) ∧ (¬ x = a → y = b ∧ ht = d) := by
  rcases kj with h | h | ⟨h, e | e⟩
  · exact absurd h nA
  · exact absurd h nB
  · exact ⟨h, fun _ => e.2, fun q => absurd e.1 q⟩
  · refine ⟨h, fun q => ?_, fun _ => e⟩
    obtain ⟨rfl, rfl⟩ := e
    subst q
    rcases Int.le_total c wd with h | h
    · exact absurd ⟨Int.le_refl _, Int.le_refl _, Int.le_refl _, by omega⟩ nA
    · exact absurd ⟨Int.le_refl _, Int.le_refl _, Int.le_refl _, by omega⟩ nB
def Live (x a p q : Int) : Prop := x = a → (p == q) = true
def LiveN (x a p q : Int) : Prop := ¬ x = a → (p == q) = true
theorem live_use {x a p q : Int} (h : Live x a p q) (e : x = a) : (p == q) = true := h e
theorem liveN_use {x a p q : Int} (h : LiveN x a p q) (e : ¬ x = a) : (p == q) = true := h e
theorem min_l {x a : Int} (h : x ≤ a) : x = min x a := by omega
theorem min_r {x a : Int} (h : a ≤ x) : a = min x a := by omega
theorem ext_l {x w a c : Int} (h : x ≤ a ∧ a + c ≤ x + w) : w = max (x + w) (a + c) - min x a := by omega
theorem ext_r {x w a c : Int} (h : a ≤ x ∧ x + w ≤ a + c) : c = max (x + w) (a + c) - min x a := by omega
end

-- P23, ahead
section
def Dead (x a wd c : Int) : Prop := x = a → (wd == c) = false
theorem dead_use {x a wd c : Int} (h : Dead x a wd c) (e : x = a) : (wd == c) = false := h e
theorem dead_of {x a wd c : Int} (h : ¬ (x = a ∧ wd = c)) : Dead x a wd c := fun e => by
  rw [beq_eq_false_iff_ne]
  exact fun q => h ⟨e, q⟩
end

-- P26, ahead
section
theorem self4 {x y p q : Int} : decide (x = x ∧ y = y ∧ p = p ∧ q = q) = true := decide_eq_true ⟨rfl, rfl, rfl, rfl⟩
end

local macro_rules | `(tactic| walk_at "newList") => `(tactic| (k_here; (with_reducible show wpAny _ _ (newList []) _ _ _); k_dflt (refine' newList_K ?k1 ?k2 ?_ ?nlz; (case nlz => exact Nat.zero_le _); (case k1 => k_asm); (case k2 => k_asm); k_whole); intro l' h' F' N' l1; (try k_lt l1); (try k_sweep)))
local macro_rules | `(tactic| walk_at "m_mem") => `(tactic| ((refine' mem_by ?hm ?_; (case hm => with_reducible assumption)); simp))
local macro_rules | `(tactic| walk_at "m_idx") => `(tactic| (refine' idx_le ?p ?a ?b ?c; (case p => with_reducible assumption); (case a => walk_at "m_mem"); (case b => walk_at "m_mem"); (case c => omega)))
local macro_rules | `(tactic| walk_at "call ref") => `(tactic| (k_here; (with_reducible show wpAny _ _ (call (Value.ref 233) [_, _, _, _, _, _]) _ _ _); k_dflt (refine' call_pur (points_c ?hd ?hu ?lc ?ic ?lr ?ir ?nc ?nr ?mx ?mxw ?my ?myh ?ox ?oy) ?B ?F ?X ?T ?hk ?N ?_; (walk_at "m_pur"); (case lc => walk_at "m_obj"); (case ic => with_reducible assumption); (case lr => walk_at "m_obj"); (case ir => with_reducible assumption); (case nc => with_reducible assumption); (case nr => with_reducible assumption); (case mx => walk_at "m_mem"); (case mxw => walk_at "m_mem"); (case my => walk_at "m_mem"); (case myh => walk_at "m_mem"); (case ox => walk_at "m_idx"); (case oy => walk_at "m_idx")); intro v' h' tk' hv' hK' F' N'; k_dflt (obtain ⟨l', ys', q', hn', ⟨o', e', hc', n', hd'⟩, hP'⟩ := hv'); subst q'; k_dflt (have N'' := News.add N' (by assumption) hn' e'); clear N'; k_dflt (obtain ⟨imm', Nw', hS', hI'⟩ := pts_ledger F' hP'); (with_reducible rename (Obj.data _ = Data.cell Option.none) => hoc'); k_dflt (have hA' := seq_ne N'' (by k_mem) (noSeq hoc') Nw' hI'); k_dflt (have N3' := newsApp N'' Nw'); clear hP' Nw' N''; (try simp only [List.cons_append, List.nil_append] at N3'); (try dsimp only)))
local macro_rules | `(tactic| k_all) => `(tactic| first | with_reducible assumption | (refine' List.forall_mem_append.mpr ⟨?a, ?b⟩; (case a => k_all); (case b => with_reducible assumption)))
local macro_rules | `(tactic| k_ne) => `(tactic| ((try dsimp only); first | with_reducible assumption | (k_dflt (refine' kind_neE ?N ?m1 ?m2 ?e1 ?e2 ?k; (case N => k_asm); (case m1 => walk_at "m_mm"); (case m2 => walk_at "m_mm"); (case e1 => first | with_reducible assumption | exact rfl); (case e2 => first | with_reducible assumption | exact rfl); (case k => exact rfl)))))
local macro_rules | `(tactic| walk_at "m_room") => `(tactic| first | exact room_k (by with_reducible assumption) (by decide) | ((try simp only [units_in1, units_deeper, Around.mark_units, units_caller]); (try dsimp only [ktrTop]); (show _ < 9900); omega))
local macro_rules | `(tactic| walk_at "m_s2") => `(tactic| ((walk_at "m_pur"); (case a => walk_at "m_obj"); (case da => walk_at "m_obj")))
local macro_rules | `(tactic| walk_at "m_t1") => `(tactic| (intro v' h' tk' hv' hK' F' N'; k_dflt (subst hv'); (try dsimp only); (try (k_dflt (refine cmpBack_bool ?_))); (try dsimp only)))
local macro_rules | `(tactic| walk_at "m_tr") => `(tactic| (intro v' h' tk' hv' hK' F' N'; k_dflt (obtain ⟨r', q', da', _, _, _, _, _, _, _, _, _, hn1', hn2', er', ed'⟩ := hv'); subst q'; k_dflt (have N1' := News.add N' (by assumption) hn2' ed'); k_dflt (have N2' := News.add N1' (by assumption) hn1' er'); clear N' N1'; (try dsimp only)))
local macro_rules | `(tactic| walk_at "call ref") => `(tactic| (k_here; (with_reducible show wpAny _ _ (call (Value.ref 177) [_, _]) _ _ _); k_dflt (refine' call_pur (contains_c ?hd ?hu ?a ?da ?b ?db) ?B ?F ?X ?T ?hk ?N ?_; walk_at "m_s4"); walk_at "m_t0"))
local macro_rules | `(tactic| walk_at "call builtin:len") => `(tactic| (k_here; (with_reducible show wpAny _ _ (call (Value.builtin "len") [Value.ref _]) _ _ _); k_dflt (refine' len_obj ?N ?m ?c ?d ?f ?_; (case N => k_asm); (case m => walk_at "m_mm"); (case c => first | with_reducible assumption | exact rfl); (case d => first | with_reducible assumption | exact rfl); (case f => with_reducible assumption)); intro t' tk'))
local macro_rules | `(tactic| walk_at "m_sub") => `(tactic| first | exact sub_refl | (refine' sub_tail ?_; walk_at "m_sub") | (intro q hq; simp only [List.mem_cons, List.mem_append, hq, or_true, true_or]))
local macro_rules | `(tactic| walk_at "m_news") => `(tactic| first | exact News.nil | (refine' newsC ?N ?m ?R; (case N => k_asm); (case m => walk_at "m_mm"); (case R => walk_at "m_news")) | (refine' newsSub ?N ?s; (case N => k_asm); (case s => walk_at "m_sub")))
local macro_rules | `(tactic| walk_at "call ref") => `(tactic| (k_here; (with_reducible show wpAny _ _ (call (Value.ref 185) [Value.ref _, Value.ref _] []) _ _ _); k_dflt (refine' call_pur (inter_d ?hd ?hu ?a ?da ?b ?db) ?B ?F ?X ?T ?hk ?N ?_; walk_at "m_s4"); walk_at "m_t0"))
local macro_rules | `(tactic| walk_at "call ref") => `(tactic| (k_here; (with_reducible show wpAny _ _ (call (Value.ref 193) [Value.ref _, Value.ref _] (List.zip _ [Value.bool true])) _ _ _); k_dflt (refine' call_pur (section_t ?hd ?hu ?a ?da ?b ?db ?hc ?h1) ?B ?F ?X ?T ?hk ?N ?_; walk_at "m_s4"; (case hc => with_reducible assumption); (case h1 => exact ⟨by assumption, by assumption, by assumption, by assumption⟩)); walk_at "m_tr"))
local macro_rules | `(tactic| walk_at "call ref") => `(tactic| (k_here; (with_reducible show wpAny _ _ (call (Value.ref 193) [Value.ref _, Value.ref _] (List.zip _ [Value.bool true])) _ _ _); k_dflt (refine' call_pur (section_tn ?hd ?hu ?a ?da ?b ?db ?hc) ?B ?F ?X ?T ?hk ?N ?_; walk_at "m_s4"; (case hc => with_reducible assumption)); walk_at "m_t0"))
local macro_rules | `(tactic| walk_at "call ref") => `(tactic| (k_here; (with_reducible show wpAny _ _ (call (Value.ref 193) [Value.ref _, Value.ref _] []) _ _ _); k_dflt (refine' call_pur (section_d ?hd ?hu ?a ?da ?b ?db ?hc ?h1) ?B ?F ?X ?T ?hk ?N ?_; walk_at "m_s4"; (case hc => with_reducible assumption); (case h1 => exact ⟨by assumption, by assumption, by assumption, by assumption⟩)); walk_at "m_tr"))
local macro_rules | `(tactic| walk_at "call ref") => `(tactic| (k_here; (with_reducible show wpAny _ _ (call (Value.ref 193) [Value.ref _, Value.ref _] []) _ _ _); k_dflt (refine' call_pur (section_dn ?hd ?hu ?a ?da ?b ?db ?hc) ?B ?F ?X ?T ?hk ?N ?_; walk_at "m_s4"; (case hc => with_reducible assumption)); walk_at "m_t0"))
local macro_rules | `(tactic| walk_at "call ref") => `(tactic| (k_here; (with_reducible show wpAny _ _ (call (Value.ref 240) [Value.none]) _ _ _); k_dflt (refine' call_pur (told_n ?hd ?hu) ?B ?F ?X ?T ?hk ?N ?_; (walk_at "m_pur")); walk_at "m_t0"))
local macro_rules | `(tactic| walk_at "call ref") => `(tactic| (k_here; (with_reducible show wpAny _ _ (call (Value.ref 240) [Value.ref _]) _ _ _); k_dflt (refine' call_pur (told_r ?hd ?hu ?a ?da) ?B ?F ?X ?T ?hk ?N ?_; walk_at "m_s2"); intro v' h' tk' hv' hK' F' N'; k_dflt (obtain ⟨T', n', q', hn', e'⟩ := hv'); subst q'; k_dflt (have N1' := News.add N' (by assumption) hn' e'); clear N'; (try dsimp only)))
local macro_rules | `(tactic| walk_at "call ref") => `(tactic| (k_here; (with_reducible show wpAny _ _ (call (Value.ref 163) [_]) _ _ _); k_dflt (refine' call_pur (area_c ?hd ?hu ?a ?da ?m) ?B ?F ?X ?T ?hk ?N ?_; walk_at "m_s2"; (case m => with_reducible assumption)); intro v' h' tk' hv' hK' F' N'; k_dflt (obtain ⟨t', q'⟩ := hv'); subst q'; (try dsimp only)))
local macro_rules | `(tactic| walk_at "call ref") => `(tactic| (k_here; (with_reducible show wpAny _ _ (call (Value.ref 142) [_, _]) _ _ _); k_dflt (refine' call_pur (lt_c ?hd ?hu ?a ?da ?b ?db ?m ?m2) ?B ?F ?X ?T ?hk ?N ?_; walk_at "m_s4"; (case m => with_reducible assumption); (case m2 => with_reducible assumption)); walk_at "m_t1"))
local macro_rules | `(tactic| walk_at "call ref") => `(tactic| (k_here; (with_reducible show wpAny _ _ (call (Value.ref 149) [_, _]) _ _ _); k_dflt (refine' call_pur (eq_c ?hd ?hu ?a ?da ?b ?db) ?B ?F ?X ?T ?hk ?N ?_; walk_at "m_s4"); walk_at "m_t1"))
local macro_rules | `(tactic| walk_at "CmpBack") => `(tactic| (k_dflt (refine cmpBack_bool ?_); (try dsimp only)))
theorem rs12 {M : Model} {A : Around} {env : Env} {E : Value → Shared → Prop} {Q : Flow → Shared → Prop} {s : Shared} (h : wpAny M A (execs [] env) Q E s) : wpAny M A (execs [] env) Q E s := by
  w_top off
  first | (walk1; done) | exact h

section
section
variable {w : World} {dp un : Nat} {gd : Option (List Code)} {cn : Str} {cs : Scope} {L aa c0 l : Addr} {ccd : Value} {outer : List Env} {A₀ : Around} {base h₀ : Heap} {m0 : Str → Option Value} {mean : ExcName → Option Value} {mg mb : Str → Option Value} {s : Shared} {E : Value → Shared → Prop} {st : List Stmt} {Q : Flow → Shared → Prop}

set_option maxHeartbeats 1000000 in
theorem chunkA2 {x wd y ht a c b d : Int} {tx tw ty th ta tc tb td : Tok} {lc lr one done two dtwo : Addr} {cvs rvs : List Value} {nc nr : Nat} {cols rows : List Int} {ka kb kc kd ke ja jb jc jd je : Tok} {oc : Obj} (hst : st = (lawB.drop 7).take 2) (hcs : cs = lawS) (hd : dp ≤ 310) (hu : un ≤ 1000) (hb : Below A₀ base outer h₀) (X : (Mine.K0 w.params).In h₀) (T : Top Mine.Vw (looseW Mine.Vw [Str.ofString "Rectangle"]) mean mg mb h₀)
    (F : Fr h₀ L s.heap (fun q => if q = Str.ofString "two" then some (.ref two) else if q = Str.ofString "one" then some (.ref one) else if q = Str.ofString "rows" then some (.ref lr) else if q = Str.ofString "columns" then some (.ref lc) else if q = Str.ofString "d" then some (.int d td) else if q = Str.ofString "b" then some (.int b tb) else if q = Str.ofString "c" then some (.int c tc) else if q = Str.ofString "a" then some (.int a ta) else if q = Str.ofString "h" then some (.int ht th) else if q = Str.ofString "y" then some (.int y ty) else if q = Str.ofString "w" then some (.int wd tw) else if q = Str.ofString "x" then some (.int x tx) else if q = Str.ofString "script" then some (.ref l) else m0 q)) (N : News h₀ L s.heap [(one, instObj 203 done), (done, rd w.params ka kb kc kd ke x y wd ht tx ty tw th), (two, instObj 203 dtwo), (dtwo, rd w.params ja jb jc jd je a b c d ta tb tc td), (lc, listOf cvs.toArray nc), (lr, listOf rvs.toArray nr), (c0, oc)]) (hoc : oc.data = .cell none)
    (i1 : IntsAre cvs cols) (p1 : cols.Pairwise (· < ·)) (m1 : ∀ z, z ∈ cols ↔ z ∈ [x, x + wd, a, a + c]) (n1 : cols.length ≤ 4) (i2 : IntsAre rvs rows) (p2 : rows.Pairwise (· < ·)) (m2 : ∀ z, z ∈ rows ↔ z ∈ [y, y + ht, b, b + d]) (n2 : rows.length ≤ 4)
    (z1 : 0 ≤ wd) (z2 : 0 ≤ ht) (z3 : 0 ≤ c) (z4 : 0 ≤ d)
    (hk : ∀ (lm lo : Addr) (om oo oc : Obj) (mvs ovs : Array Value) (nm no : Nat) (h' : Heap) (tk' : Nat), Fr h₀ L h' (fun q => if q = Str.ofString "mine" then some (.ref lm) else if q = Str.ofString "two" then some (.ref two) else if q = Str.ofString "one" then some (.ref one) else if q = Str.ofString "rows" then some (.ref lr) else if q = Str.ofString "columns" then some (.ref lc) else if q = Str.ofString "d" then some (.int d td) else if q = Str.ofString "b" then some (.int b tb) else if q = Str.ofString "c" then some (.int c tc) else if q = Str.ofString "a" then some (.int a ta) else if q = Str.ofString "h" then some (.int ht th) else if q = Str.ofString "y" then some (.int y ty) else if q = Str.ofString "w" then some (.int wd tw) else if q = Str.ofString "x" then some (.int x tx) else if q = Str.ofString "script" then some (.ref l) else m0 q) → News h₀ L h' [(lm, om), (lo, oo), (one, instObj 203 done), (done, rd w.params ka kb kc kd ke x y wd ht tx ty tw th), (two, instObj 203 dtwo), (dtwo, rd w.params ja jb jc jd je a b c d ta tb tc td), (lc, listOf cvs.toArray nc), (lr, listOf rvs.toArray nr), (c0, oc)] → om.cls = .type "list" → om.data = .seq mvs nm → oo.cls = .type "list" → oo.data = .seq ovs no → oc.data = .cell (some (.ref lo)) →
      Paired (PtIs h') mvs.toList (grid (cols.idxOf x) (cols.idxOf (x + wd)) (rows.idxOf y) (rows.idxOf (y + ht))) → Paired (PtIs h') ovs.toList (grid (cols.idxOf a) (cols.idxOf (a + c)) (rows.idxOf b) (rows.idxOf (b + d))) → Q .next { s with heap := h', toks := tk' }) :
    wpAny (model PySem.Challenge.rw_jb0029_01.row.prog w) (ktrTop dp un gd cn cs L aa ccd [(Str.ofString "other", c0)] outer) (execs st (envX cn cs L aa ccd [(Str.ofString "other", c0)])) Q E s := by
  have hst2 : st = [_, _] := hst
  have hcs2 : cs = Scope.mk _ _ _ _ _ := hcs
  subst hst2 hcs2
  clear hst hcs
  k_steps
  (try dsimp only)
  refine' hk _ _ _ _ _ _ _ _ _ _ _ ?F ?N ?c1 ?d1 ?c2 ?d2 ?d3 ?p1 ?p2
  case F => k_asm
  case N => exact newsC (by k_asm) (by k_mem) (newsC (by k_asm) (.head _) (newsC (by k_asm) (by k_mem) (newsC (by k_asm) (by k_mem) (newsC (by k_asm) (by k_mem) (newsC (by k_asm) (by k_mem) (newsC (by k_asm) (by k_mem) (newsC (by k_asm) (by k_mem) (newsC (by k_asm) (by k_mem) News.nil))))))))
  case d1 => with_reducible assumption
  case d2 => with_reducible assumption
  case d3 => with_reducible assumption
  case c1 => with_reducible assumption
  case c2 => with_reducible assumption
  all_goals (refine' ptsS ?F ?N ?h ?x; (case F => k_asm); (case N => k_asm); (case x => with_reducible assumption); (case h => (intro q hq; simp only [List.mem_cons, List.mem_append, hq, or_true, true_or])))
end
end

-- P11
theorem rs13 {M : Model} {A : Around} {env : Env} {E : Value → Shared → Prop} {Q : Flow → Shared → Prop} {s : Shared} (h : wpAny M A (execs [] env) Q E s) : wpAny M A (execs [] env) Q E s := by
  w_top off
  first | (walk1; done) | exact h

section
local macro_rules | `(tactic| walk_at "m_rd") => `(tactic| first | with_reducible assumption | (refine' rd_up ?F ?x; (case F => k_asm); (case x => with_reducible assumption)))
local macro_rules | `(tactic| walk_at "m_compareOpInrefref") => `(tactic| (k_here; (with_reducible show wpAny _ _ (compareOp CmpOp.In (Value.ref _) (Value.ref _)) _ _ _); k_dflt (refine' in_pts ?y ?l ?u ?_; (case y => walk_at "m_rd"); (case l => walk_at "m_rd"); (case u => walk_at "m_room"))))
local macro_rules | `(tactic| walk_at "compareOp In ref ref") => `(tactic| walk_at "m_compareOpInrefref")
local macro_rules | `(tactic| walk_at "compareOp In ref") => `(tactic| walk_at "m_compareOpInrefref")
local macro_rules | `(tactic| walk_at "compareOp In") => `(tactic| walk_at "m_compareOpInrefref")

section
variable {w : World} {dp un : Nat} {gd : Option (List Code)} {cn : Str} {cs : Scope} {L aa c0 l : Addr} {ccd : Value} {outer : List Env} {A₀ : Around} {base h₀ : Heap} {m0 : Str → Option Value} {mean : ExcName → Option Value} {mg mb : Str → Option Value} {s : Shared} {E : Value → Shared → Prop} {st : List Stmt} {Q : Flow → Shared → Prop}

set_option maxHeartbeats 1000000 in
theorem chunkB1 {x wd y ht a c b d : Int} {tx tw ty th ta tc tb td : Tok} {lc lr one done two dtwo : Addr} {cvs rvs : List Value} {nc nr : Nat} {cols rows : List Int} {ka kb kc kd ke ja jb jc jd je : Tok} {lm lo : Addr} {om oo oc : Obj} {mvs ovs : Array Value} {nm no : Nat} (hst : st = (lawB.drop 9).take 1) (hcs : cs = lawS) (hd : dp ≤ 310) (hu : un ≤ 1000) (hb : Below A₀ base outer h₀) (X : (Mine.K0 w.params).In h₀) (T : Top Mine.Vw (looseW Mine.Vw [Str.ofString "Rectangle"]) mean mg mb h₀)
    (F : Fr h₀ L s.heap (fun q => if q = Str.ofString "mine" then some (.ref lm) else if q = Str.ofString "two" then some (.ref two) else if q = Str.ofString "one" then some (.ref one) else if q = Str.ofString "rows" then some (.ref lr) else if q = Str.ofString "columns" then some (.ref lc) else if q = Str.ofString "d" then some (.int d td) else if q = Str.ofString "b" then some (.int b tb) else if q = Str.ofString "c" then some (.int c tc) else if q = Str.ofString "a" then some (.int a ta) else if q = Str.ofString "h" then some (.int ht th) else if q = Str.ofString "y" then some (.int y ty) else if q = Str.ofString "w" then some (.int wd tw) else if q = Str.ofString "x" then some (.int x tx) else if q = Str.ofString "script" then some (.ref l) else m0 q)) (N : News h₀ L s.heap [(lm, om), (lo, oo), (one, instObj 203 done), (done, rd w.params ka kb kc kd ke x y wd ht tx ty tw th), (two, instObj 203 dtwo), (dtwo, rd w.params ja jb jc jd je a b c d ta tb tc td), (lc, listOf cvs.toArray nc), (lr, listOf rvs.toArray nr), (c0, oc)]) (c1 : om.cls = .type "list") (d1 : om.data = .seq mvs nm) (c2 : oo.cls = .type "list") (d2 : oo.data = .seq ovs no) (d3 : oc.data = .cell (some (.ref lo))) (n1 : cols.length ≤ 4) (n2 : rows.length ≤ 4)
    (PM : Paired (PtIs s.heap) mvs.toList (grid (cols.idxOf x) (cols.idxOf (x + wd)) (rows.idxOf y) (rows.idxOf (y + ht)))) (PO : Paired (PtIs s.heap) ovs.toList (grid (cols.idxOf a) (cols.idxOf (a + c)) (rows.idxOf b) (rows.idxOf (b + d))))
    (hk : ∀ (lsh : Addr) (osh : Obj) (svs : Array Value) (nsh : Nat) (h' : Heap) (tk' : Nat), Fr h₀ L h' (fun q => if q = Str.ofString "shared" then some (.ref lsh) else if q = Str.ofString "mine" then some (.ref lm) else if q = Str.ofString "two" then some (.ref two) else if q = Str.ofString "one" then some (.ref one) else if q = Str.ofString "rows" then some (.ref lr) else if q = Str.ofString "columns" then some (.ref lc) else if q = Str.ofString "d" then some (.int d td) else if q = Str.ofString "b" then some (.int b tb) else if q = Str.ofString "c" then some (.int c tc) else if q = Str.ofString "a" then some (.int a ta) else if q = Str.ofString "h" then some (.int ht th) else if q = Str.ofString "y" then some (.int y ty) else if q = Str.ofString "w" then some (.int wd tw) else if q = Str.ofString "x" then some (.int x tx) else if q = Str.ofString "script" then some (.ref l) else m0 q) → News h₀ L h' [(lsh, osh), (lm, om), (lo, oo), (one, instObj 203 done), (done, rd w.params ka kb kc kd ke x y wd ht tx ty tw th), (two, instObj 203 dtwo), (dtwo, rd w.params ja jb jc jd je a b c d ta tb tc td), (lc, listOf cvs.toArray nc), (lr, listOf rvs.toArray nr), (c0, oc)] → osh.cls = .type "list" → osh.data = .seq svs nsh →
      Paired (PtIs h') svs.toList ((grid (cols.idxOf x) (cols.idxOf (x + wd)) (rows.idxOf y) (rows.idxOf (y + ht))).filter fun p => decide (p ∈ (grid (cols.idxOf a) (cols.idxOf (a + c)) (rows.idxOf b) (rows.idxOf (b + d))))) → Q .next { s with heap := h', toks := tk' }) :
    wpAny (model PySem.Challenge.rw_jb0029_01.row.prog w) (ktrTop dp un gd cn cs L aa ccd [(Str.ofString "other", c0)] outer) (execs st (envX cn cs L aa ccd [(Str.ofString "other", c0)])) Q E s := by
  have hst2 : st = [Stmt.Assign [.Name _ _] (.ListComp _ [⟨.Name _ _, _, _, 0⟩] _ _) _] := hst
  have hcs2 : cs = Scope.mk _ _ _ _ _ := hcs
  subst hst2 hcs2
  clear hst hcs
  refine wpAny_execs_cons ?_
  refine one_assign (cl := [(Str.ofString "other", c0)]) (byPt s.heap fun p => decide (p ∈ (grid (cols.idxOf a) (cols.idxOf (a + c)) (rows.idxOf b) (rows.idxOf (b + d))))) (fun v y => y = v) (by with_unfolding_all rfl) rfl rfl (by decide) rfl (by decide) rfl (by rfl) (by rfl) ?_
  refine cps ?_
  intro qz hqz
  k_steps
  have hlm := (N _ (.head _)).1
  have hlo := (N _ (.tail _ (.head _))).1
  have hoc := News.get N (a := c0) (o := oc) (by k_mem)
  dsimp only at hlm hlo
  have hO : Rd s.heap (.ref lo) (.list ((grid (cols.idxOf a) (cols.idxOf (a + c)) (rows.idxOf b) (rows.idxOf (b + d))).map ptD)) := rd_pts hlo c2 d2 PO
  have hsz : mvs.toList.length ≤ 81 := by
    rw [PM.length]
    exact grid_small (by have := List.idxOf_le_length (a := x + wd) (l := cols); omega) (by have := List.idxOf_le_length (a := y + ht) (l := rows); omega)
  have X1 := X.keeps F.keep
  have T1 := T.keeps F.keep
  refine hqz _ _ ⟨mvs.toList, _, F.ns, ⟨⟨lm, rfl, ⟨om, hlm, c1, nm, by rw [Array.toArray_toList]; exact d1⟩, Nat.le_trans hsz (by decide), ?_, ?_⟩⟩, ?_⟩
  · intro v C s₂ u E' hv hC hu hx hk₂
    obtain ⟨q, _, T, ti, tj, rfl, hT⟩ := paired_mem PM hv
    have hy : Rd s.heap (.ref T) (ptD q) := rd_pt ⟨T, ti, tj, rfl, hT⟩
    have hp := byPt_is (f := fun p => decide (p ∈ (grid (cols.idxOf a) (cols.idxOf (a + c)) (rows.idxOf b) (rows.idxOf (b + d))))) (⟨T, ti, tj, rfl, hT⟩ : PtIs s.heap (.ref T) q)
    have F₂ := Fr.mk hu hk₂ hC
    rw [hp]
    clear hp hu hC hk₂ F N hk hqz
    refine tests1 ?_
    refine cps ?_
    intro qz hqz
    k_steps
    exact hqz _ _ ⟨rfl, _, _, rfl, KpB.refl _ _, F₂.ns⟩
  · intro v C s₂ u E' hv _ hC hu hx hk₂
    have F₂ := Fr.mk hu hk₂ hC
    clear hu hC hk₂ F N hk hqz
    refine cps ?_
    intro qz hqz
    k_steps
    exact hqz _ _ ⟨rfl, _, _, rfl, KpB.refl _ _, F₂.ns⟩
  · intro D h' tk zs hD hl hP hn hkb
    obtain ⟨osh, ho, hc, n, hd'⟩ := hl
    have N1 := News.add (newsK N hkb) F hD ho
    have P1 := paired_kpb F hkb (paired_filter (f := fun p => decide (p ∈ (grid (cols.idxOf a) (cols.idxOf (a + c)) (rows.idxOf b) (rows.idxOf (b + d))))) PM)
    rw [← paired_eq hP] at P1
    refine wpAny_execs_nil ?_
    exact hk D osh zs n h' tk (frK F hkb hn) N1 hc hd' P1
end
end

-- P12
local macro_rules | `(tactic| walk_at "subscriptTail") => `(tactic| (k_here; k_dflt ((first | ((with_reducible show wpAny _ _ (subscriptTail _ _ (Value.ref _) (Value.int 0 _)) _ _ _); refine' pt_item0 ?ht ?_ ?hs ?hg) | ((with_reducible show wpAny _ _ (subscriptTail _ _ (Value.ref _) (Value.int 1 _)) _ _ _); refine' pt_item1 ?ht ?_ ?hs ?hg)); (case ht => (refine' isTup_up ?F ?x; (case F => k_asm); (case x => with_reducible assumption))); (case hs => with_unfolding_all rfl); (case hg => (intro _; with_unfolding_all rfl)))))
theorem rs14 {M : Model} {A : Around} {env : Env} {E : Value → Shared → Prop} {Q : Flow → Shared → Prop} {s : Shared} (h : wpAny M A (execs [] env) Q E s) : wpAny M A (execs [] env) Q E s := by
  w_top off
  first | (walk1; done) | exact h

section
section
variable {w : World} {dp un : Nat} {gd : Option (List Code)} {cn : Str} {cs : Scope} {L aa c0 l : Addr} {ccd : Value} {outer : List Env} {A₀ : Around} {base h₀ : Heap} {m0 : Str → Option Value} {mean : ExcName → Option Value} {mg mb : Str → Option Value} {s : Shared} {E : Value → Shared → Prop} {st : List Stmt} {Q : Flow → Shared → Prop}

set_option maxHeartbeats 1000000 in
theorem chunkB2 {x wd y ht a c b d : Int} {tx tw ty th ta tc tb td : Tok} {lc lr one done two dtwo : Addr} {cvs rvs : List Value} {nc nr : Nat} {cols rows : List Int} {ka kb kc kd ke ja jb jc jd je : Tok} {lm lo : Addr} {om oo oc : Obj} {mvs ovs : Array Value} {nm no : Nat} {lsh : Addr} {osh : Obj} {svs : Array Value} {nsh : Nat} {sh : List (Int × Int)} (hst : st = (lawB.drop 10).take 1) (hcs : cs = lawS) (hd : dp ≤ 310) (hu : un ≤ 1000) (hb : Below A₀ base outer h₀) (X : (Mine.K0 w.params).In h₀) (T : Top Mine.Vw (looseW Mine.Vw [Str.ofString "Rectangle"]) mean mg mb h₀)
    (F : Fr h₀ L s.heap (fun q => if q = Str.ofString "shared" then some (.ref lsh) else if q = Str.ofString "mine" then some (.ref lm) else if q = Str.ofString "two" then some (.ref two) else if q = Str.ofString "one" then some (.ref one) else if q = Str.ofString "rows" then some (.ref lr) else if q = Str.ofString "columns" then some (.ref lc) else if q = Str.ofString "d" then some (.int d td) else if q = Str.ofString "b" then some (.int b tb) else if q = Str.ofString "c" then some (.int c tc) else if q = Str.ofString "a" then some (.int a ta) else if q = Str.ofString "h" then some (.int ht th) else if q = Str.ofString "y" then some (.int y ty) else if q = Str.ofString "w" then some (.int wd tw) else if q = Str.ofString "x" then some (.int x tx) else if q = Str.ofString "script" then some (.ref l) else m0 q)) (N : News h₀ L s.heap [(lsh, osh), (lm, om), (lo, oo), (one, instObj 203 done), (done, rd w.params ka kb kc kd ke x y wd ht tx ty tw th), (two, instObj 203 dtwo), (dtwo, rd w.params ja jb jc jd je a b c d ta tb tc td), (lc, listOf cvs.toArray nc), (lr, listOf rvs.toArray nr), (c0, oc)]) (c3 : osh.cls = .type "list") (e3 : osh.data = .seq svs nsh)
    (PS : Paired (PtIs s.heap) svs.toList sh) (hsz : sh.length ≤ 81)
    (hk : ∀ (lin : Addr) (oin : Obj) (ivs : Array Value) (nin : Nat) (h' : Heap) (tk' : Nat), Fr h₀ L h' (fun q => if q = Str.ofString "inner" then some (.ref lin) else if q = Str.ofString "shared" then some (.ref lsh) else if q = Str.ofString "mine" then some (.ref lm) else if q = Str.ofString "two" then some (.ref two) else if q = Str.ofString "one" then some (.ref one) else if q = Str.ofString "rows" then some (.ref lr) else if q = Str.ofString "columns" then some (.ref lc) else if q = Str.ofString "d" then some (.int d td) else if q = Str.ofString "b" then some (.int b tb) else if q = Str.ofString "c" then some (.int c tc) else if q = Str.ofString "a" then some (.int a ta) else if q = Str.ofString "h" then some (.int ht th) else if q = Str.ofString "y" then some (.int y ty) else if q = Str.ofString "w" then some (.int wd tw) else if q = Str.ofString "x" then some (.int x tx) else if q = Str.ofString "script" then some (.ref l) else m0 q) → News h₀ L h' [(lin, oin), (lsh, osh), (lm, om), (lo, oo), (one, instObj 203 done), (done, rd w.params ka kb kc kd ke x y wd ht tx ty tw th), (two, instObj 203 dtwo), (dtwo, rd w.params ja jb jc jd je a b c d ta tb tc td), (lc, listOf cvs.toArray nc), (lr, listOf rvs.toArray nr), (c0, oc)] → oin.cls = .type "list" → oin.data = .seq ivs nin →
      Paired (PtIs h') svs.toList sh → Paired (PtIs h') ivs.toList (sh.filter odd2) → Q .next { s with heap := h', toks := tk' }) :
    wpAny (model PySem.Challenge.rw_jb0029_01.row.prog w) (ktrTop dp un gd cn cs L aa ccd [(Str.ofString "other", c0)] outer) (execs st (envX cn cs L aa ccd [(Str.ofString "other", c0)])) Q E s := by
  have hst2 : st = [Stmt.Assign [.Name _ _] (.ListComp _ [⟨.Name _ _, _, _, 0⟩] _ _) _] := hst
  have hcs2 : cs = Scope.mk _ _ _ _ _ := hcs
  subst hst2 hcs2
  clear hst hcs
  refine wpAny_execs_cons ?_
  refine one_assign (cl := []) (byPt s.heap odd2) (fun v y => y = v) (by with_unfolding_all rfl) rfl rfl (by decide) rfl (by decide) rfl (by rfl) (by rfl) ?_
  refine cps ?_
  intro qz hqz
  k_steps
  have hls := (N _ (.head _)).1
  dsimp only at hls
  have X1 := X.keeps F.keep
  have T1 := T.keeps F.keep
  refine hqz _ _ ⟨svs.toList, _, F.ns, ⟨⟨lsh, rfl, ⟨osh, hls, c3, nsh, by rw [Array.toArray_toList]; exact e3⟩, Nat.le_trans (by rw [PS.length]; exact hsz) (by decide), ?_, ?_⟩⟩, ?_⟩
  · intro v C s₂ u E' hv hC hu hx hk₂
    obtain ⟨q, _, T, ti, tj, rfl, hT⟩ := paired_mem PS hv
    have hp := byPt_is (f := odd2) (⟨T, ti, tj, rfl, hT⟩ : PtIs s.heap (.ref T) q)
    have F₂ := Fr.mk hu hk₂ hC
    rw [hp]
    clear hp hu hC hk₂ F N hk hqz
    refine tests1 ?_
    refine cps ?_
    intro qz hqz
    k_steps
    all_goals (refine hqz _ _ ⟨?_, _, _, rfl, KpB.refl _ _, F₂.ns⟩; clear hqz; simp [odd2, *])
  · intro v C s₂ u E' hv _ hC hu hx hk₂
    have F₂ := Fr.mk hu hk₂ hC
    clear hu hC hk₂ F N hk hqz
    refine cps ?_
    intro qz hqz
    k_steps
    exact hqz _ _ ⟨rfl, _, _, rfl, KpB.refl _ _, F₂.ns⟩
  · intro D h' tk zs hD hl hP hn hkb
    obtain ⟨oin, ho, hc, n, hd'⟩ := hl
    have N1 := News.add (newsK N hkb) F hD ho
    have P1 := paired_kpb F hkb (paired_filter (f := odd2) PS)
    rw [← paired_eq hP] at P1
    refine wpAny_execs_nil ?_
    exact hk D oin zs n h' tk (frK F hkb hn) N1 hc hd' (paired_kpb F hkb PS) P1
end
end

-- P13
theorem rs15 {M : Model} {A : Around} {env : Env} {E : Value → Shared → Prop} {Q : Flow → Shared → Prop} {s : Shared} (h : wpAny M A (execs [] env) Q E s) : wpAny M A (execs [] env) Q E s := by
  w_top off
  first | (walk1; done) | exact h

section
section
variable {w : World} {dp un : Nat} {gd : Option (List Code)} {cn : Str} {cs : Scope} {L aa c0 l : Addr} {ccd : Value} {outer : List Env} {A₀ : Around} {base h₀ : Heap} {m0 : Str → Option Value} {mean : ExcName → Option Value} {mg mb : Str → Option Value} {s : Shared} {E : Value → Shared → Prop} {st : List Stmt} {Q : Flow → Shared → Prop}

set_option maxHeartbeats 400000 in
theorem chunkC {x wd y ht a c b d : Int} {tx tw ty th ta tc tb td : Tok} {lc lr one done two dtwo : Addr} {cvs rvs : List Value} {nc nr : Nat} {cols rows : List Int} {ka kb kc kd ke ja jb jc jd je : Tok} {lm lo : Addr} {om oo oc : Obj} {mvs ovs : Array Value} {nm no : Nat} {lsh : Addr} {osh : Obj} {svs : Array Value} {nsh : Nat} {lin : Addr} {oin : Obj} {ivs : Array Value} {nin : Nat} {imm : List (Addr × Obj)} {sh inn : List (Int × Int)} (hst : st = (lawB.drop 11).take 1) (hcs : cs = lawS) (hd : dp ≤ 310) (hu : un ≤ 1000) (hb : Below A₀ base outer h₀) (X : (Mine.K0 w.params).In h₀) (T : Top Mine.Vw (looseW Mine.Vw [Str.ofString "Rectangle"]) mean mg mb h₀) (F : Fr h₀ L s.heap (fun q => if q = Str.ofString "inner" then some (.ref lin) else if q = Str.ofString "shared" then some (.ref lsh) else if q = Str.ofString "mine" then some (.ref lm) else if q = Str.ofString "two" then some (.ref two) else if q = Str.ofString "one" then some (.ref one) else if q = Str.ofString "rows" then some (.ref lr) else if q = Str.ofString "columns" then some (.ref lc) else if q = Str.ofString "d" then some (.int d td) else if q = Str.ofString "b" then some (.int b tb) else if q = Str.ofString "c" then some (.int c tc) else if q = Str.ofString "a" then some (.int a ta) else if q = Str.ofString "h" then some (.int ht th) else if q = Str.ofString "y" then some (.int y ty) else if q = Str.ofString "w" then some (.int wd tw) else if q = Str.ofString "x" then some (.int x tx) else if q = Str.ofString "script" then some (.ref l) else m0 q)) (N : News h₀ L s.heap ((lin, oin) :: (lsh, osh) :: (lm, om) :: (lo, oo) :: (one, instObj 203 done) :: (done, rd w.params ka kb kc kd ke x y wd ht tx ty tw th) :: (two, instObj 203 dtwo) :: (dtwo, rd w.params ja jb jc jd je a b c d ta tb tc td) :: (lc, listOf cvs.toArray nc) :: (lr, listOf rvs.toArray nr) :: (c0, oc) :: imm)) (c1 : om.cls = .type "list") (d1 : om.data = .seq mvs nm) (c2 : oo.cls = .type "list") (d2 : oo.data = .seq ovs no) (c3 : osh.cls = .type "list") (e3 : osh.data = .seq svs nsh) (c4 : oin.cls = .type "list") (e4 : oin.data = .seq ivs nin) (d3 : oc.data = .cell (some (.ref lo))) (PS : Paired (PtS h₀ imm) svs.toList sh) (PI : Paired (PtS h₀ imm) ivs.toList inn) (s1 : mvs.size ≤ 81) (s2 : ovs.size ≤ 81) (s3 : svs.size ≤ 81) (z1 : 0 ≤ wd) (z2 : 0 ≤ ht) (z3 : 0 ≤ c) (z4 : 0 ≤ d)
    (k1 : decide (y ≤ b ∧ x ≤ a ∧ b + d ≤ y + ht ∧ a + c ≤ x + wd) = (((svs.size : Nat) : Int) == ((ovs.size : Nat) : Int))) (k2 : decide (b ≤ y ∧ a ≤ x ∧ y + ht ≤ b + d ∧ x + wd ≤ a + c) = (((svs.size : Nat) : Int) == ((mvs.size : Nat) : Int))) (hk : ∀ (h' : Heap) (tk' : Nat), Fr h₀ L h' (fun q => if q = Str.ofString "inner" then some (.ref lin) else if q = Str.ofString "shared" then some (.ref lsh) else if q = Str.ofString "mine" then some (.ref lm) else if q = Str.ofString "two" then some (.ref two) else if q = Str.ofString "one" then some (.ref one) else if q = Str.ofString "rows" then some (.ref lr) else if q = Str.ofString "columns" then some (.ref lc) else if q = Str.ofString "d" then some (.int d td) else if q = Str.ofString "b" then some (.int b tb) else if q = Str.ofString "c" then some (.int c tc) else if q = Str.ofString "a" then some (.int a ta) else if q = Str.ofString "h" then some (.int ht th) else if q = Str.ofString "y" then some (.int y ty) else if q = Str.ofString "w" then some (.int wd tw) else if q = Str.ofString "x" then some (.int x tx) else if q = Str.ofString "script" then some (.ref l) else m0 q) → News h₀ L h' ((lin, oin) :: (lsh, osh) :: (lm, om) :: (lo, oo) :: (one, instObj 203 done) :: (done, rd w.params ka kb kc kd ke x y wd ht tx ty tw th) :: (two, instObj 203 dtwo) :: (dtwo, rd w.params ja jb jc jd je a b c d ta tb tc td) :: (lc, listOf cvs.toArray nc) :: (lr, listOf rvs.toArray nr) :: (c0, oc) :: imm) → Q .next { s with heap := h', toks := tk' }) : wpAny (model PySem.Challenge.rw_jb0029_01.row.prog w) (ktrTop dp un gd cn cs L aa ccd [(Str.ofString "other", c0)] outer) (execs st (envX cn cs L aa ccd [(Str.ofString "other", c0)])) Q E s := by
  have hst2 : st = [_] := hst
  have hcs2 : cs = Scope.mk _ _ _ _ _ := hcs
  subst hst2 hcs2
  clear hst hcs
  have p1 := ne_same k1
  have p2 := ne_same k2
  refine cps ?_
  intro qz hqz
  k_steps
  all_goals first | (rename_i a1; rw [k1] at a1; simp at a1; done) | (rename_i a1; rw [k2] at a1; simp at a1; done) | ((try dsimp only); exact hqz _ _ (hk _ _ (by k_asm) (by k_asm)))
end
end

-- P14
theorem rs16 {M : Model} {A : Around} {env : Env} {E : Value → Shared → Prop} {Q : Flow → Shared → Prop} {s : Shared} (h : wpAny M A (execs [] env) Q E s) : wpAny M A (execs [] env) Q E s := by
  w_top off
  first | (walk1; done) | exact h

section
section
variable {w : World} {dp un : Nat} {gd : Option (List Code)} {cn : Str} {cs : Scope} {L aa lsh : Addr} {ccd : Value} {cl : List (Str × Addr)} {outer : List Env} {A₀ : Around} {base h₀ : Heap} {m : Str → Option Value} {mean : ExcName → Option Value} {mg mb : Str → Option Value} {s : Shared} {E : Value → Shared → Prop} {Q : Value → Shared → Prop} {news imm : List (Addr × Obj)} {osh : Obj} {svs : Array Value} {nsh : Nat} {sh : List (Int × Int)}

set_option maxHeartbeats 400000 in
theorem comp_fst {scope : Scope} {p1 p2 p3 p4 p5 pos : Pos} {k : Nat} (hck : cs.kind = .function) (X : (Mine.K0 w.params).In h₀) (T : Top Mine.Vw (looseW Mine.Vw [Str.ofString "Rectangle"]) mean mg mb h₀) (F : Fr h₀ L s.heap m) (hm : m (Str.ofString "shared") = some (.ref lsh)) (hkd : (envX cn cs L aa ccd cl).kindOf (Str.ofString "shared") = some .local)
    (N : News h₀ L s.heap news) (hl : (lsh, osh) ∈ news) (c3 : osh.cls = .type "list") (e3 : osh.data = .seq svs nsh) (PS : Paired (PtS h₀ imm) svs.toList sh) (hs : ∀ q ∈ imm, q ∈ news) (hsz : svs.size ≤ 81)
    (hclos : closureFor scope (envX cn cs L aa ccd cl) = pure []) (hsk : scope.kind = .function) (hsc : scope.names = [(Str.ofString ".0", .local), (Str.ofString "point", .local)])
    (h : ∀ D oD zs n h' tk, Fr h₀ L h' m → News h₀ L h' ((D, oD) :: news) → oD.cls = .type "list" → oD.data = .seq zs n → IntsAre zs.toList (sh.map Prod.fst) → Q (.ref D) { s with heap := h', toks := tk }) :
    wpAny (model PySem.Challenge.rw_jb0029_01.row.prog w) (ktrTop dp un gd cn cs L aa ccd cl outer) (eval (.ListComp (.Subscript (.Name (Str.ofString "point") p1) (.Constant (.int 0) k p2) p3) [⟨.Name (Str.ofString "point") p4, .Name (Str.ofString "shared") p5, [], 0⟩] scope pos) (envX cn cs L aa ccd cl)) Q E s := by
  obtain ⟨sk, sn, sg, sc, sm⟩ := scope
  dsimp only at hsk hsc
  subst hsk hsc
  refine one_comp (cl := []) (fun _ => true) (PtF Prod.fst h₀ imm) rfl hclos (show ∀ y ∈ [(Str.ofString ".0", NameKind.local), (Str.ofString "point", NameKind.local)], y.2 ≠ .cell from by decide) rfl (show ∀ y ∈ [(Str.ofString ".0", NameKind.local), (Str.ofString "point", NameKind.local)], y.2 = .local → List.lookup y.1 [(Str.ofString ".0", NameKind.local), (Str.ofString "point", NameKind.local)] = some .local from by decide) rfl ?_
  refine wpAny_Name (wpAny_loadName_local (env := envX cn cs L aa ccd cl) hck hkd F.ns hm ?_) (by decide)
  have hls := N.get hl
  have hsz' : svs.toList.length ≤ sizeLine := Nat.le_trans (by simpa using hsz) (by decide)
  have X1 := X.keeps F.keep
  have T1 := T.keeps F.keep
  refine ⟨svs.toList, ⟨⟨lsh, rfl, ⟨osh, hls, c3, nsh, by rw [Array.toArray_toList]; exact e3⟩, hsz', ?_, ?_⟩⟩, ?_⟩
  · intro v C s₂ u E' hv hC hu hx hk₂
    simp only [List.forIn_nil]
    exact wpAny_pure ⟨rfl, _, _, rfl, KpB.refl _ _, hu⟩
  · intro v C s₂ u E' hv _ hC hu hx hk₂
    obtain ⟨q, _, hq⟩ := paired_mem PS hv
    obtain ⟨T, ti, tj, rfl, hT⟩ := hq.is F N hs
    have F₂ := Fr.mk hu hk₂ hC
    clear hu hC hk₂ F N h
    refine cps ?_
    intro qz hqz
    k_steps
    exact hqz _ _ ⟨⟨q, ti, hq, rfl⟩, _, _, rfl, KpB.refl _ _, F₂.ns⟩
  · intro D h' tk zs hD hl' hP hkp
    obtain ⟨oD, ho, hc, n, hd'⟩ := hl'
    rw [List.filter_eq_self.mpr (fun _ _ => rfl)] at hP
    exact h D oD zs n h' tk (Fr.up F hkp) (News.add (News.up N hkp) F hD ho) hc hd' (ptF_ints F N hs hP PS)
set_option maxHeartbeats 400000 in
theorem comp_snd {scope : Scope} {p1 p2 p3 p4 p5 pos : Pos} {k : Nat} (hck : cs.kind = .function) (X : (Mine.K0 w.params).In h₀) (T : Top Mine.Vw (looseW Mine.Vw [Str.ofString "Rectangle"]) mean mg mb h₀) (F : Fr h₀ L s.heap m) (hm : m (Str.ofString "shared") = some (.ref lsh)) (hkd : (envX cn cs L aa ccd cl).kindOf (Str.ofString "shared") = some .local)
    (N : News h₀ L s.heap news) (hl : (lsh, osh) ∈ news) (c3 : osh.cls = .type "list") (e3 : osh.data = .seq svs nsh) (PS : Paired (PtS h₀ imm) svs.toList sh) (hs : ∀ q ∈ imm, q ∈ news) (hsz : svs.size ≤ 81)
    (hclos : closureFor scope (envX cn cs L aa ccd cl) = pure []) (hsk : scope.kind = .function) (hsc : scope.names = [(Str.ofString ".0", .local), (Str.ofString "point", .local)])
    (h : ∀ D oD zs n h' tk, Fr h₀ L h' m → News h₀ L h' ((D, oD) :: news) → oD.cls = .type "list" → oD.data = .seq zs n → IntsAre zs.toList (sh.map Prod.snd) → Q (.ref D) { s with heap := h', toks := tk }) :
    wpAny (model PySem.Challenge.rw_jb0029_01.row.prog w) (ktrTop dp un gd cn cs L aa ccd cl outer) (eval (.ListComp (.Subscript (.Name (Str.ofString "point") p1) (.Constant (.int 1) k p2) p3) [⟨.Name (Str.ofString "point") p4, .Name (Str.ofString "shared") p5, [], 0⟩] scope pos) (envX cn cs L aa ccd cl)) Q E s := by
  obtain ⟨sk, sn, sg, sc, sm⟩ := scope
  dsimp only at hsk hsc
  subst hsk hsc
  refine one_comp (cl := []) (fun _ => true) (PtF Prod.snd h₀ imm) rfl hclos (show ∀ y ∈ [(Str.ofString ".0", NameKind.local), (Str.ofString "point", NameKind.local)], y.2 ≠ .cell from by decide) rfl (show ∀ y ∈ [(Str.ofString ".0", NameKind.local), (Str.ofString "point", NameKind.local)], y.2 = .local → List.lookup y.1 [(Str.ofString ".0", NameKind.local), (Str.ofString "point", NameKind.local)] = some .local from by decide) rfl ?_
  refine wpAny_Name (wpAny_loadName_local (env := envX cn cs L aa ccd cl) hck hkd F.ns hm ?_) (by decide)
  have hls := N.get hl
  have hsz' : svs.toList.length ≤ sizeLine := Nat.le_trans (by simpa using hsz) (by decide)
  have X1 := X.keeps F.keep
  have T1 := T.keeps F.keep
  refine ⟨svs.toList, ⟨⟨lsh, rfl, ⟨osh, hls, c3, nsh, by rw [Array.toArray_toList]; exact e3⟩, hsz', ?_, ?_⟩⟩, ?_⟩
  · intro v C s₂ u E' hv hC hu hx hk₂
    simp only [List.forIn_nil]
    exact wpAny_pure ⟨rfl, _, _, rfl, KpB.refl _ _, hu⟩
  · intro v C s₂ u E' hv _ hC hu hx hk₂
    obtain ⟨q, _, hq⟩ := paired_mem PS hv
    obtain ⟨T, ti, tj, rfl, hT⟩ := hq.is F N hs
    have F₂ := Fr.mk hu hk₂ hC
    clear hu hC hk₂ F N h
    refine cps ?_
    intro qz hqz
    k_steps
    exact hqz _ _ ⟨⟨q, tj, hq, rfl⟩, _, _, rfl, KpB.refl _ _, F₂.ns⟩
  · intro D h' tk zs hD hl' hP hkp
    obtain ⟨oD, ho, hc, n, hd'⟩ := hl'
    rw [List.filter_eq_self.mpr (fun _ _ => rfl)] at hP
    exact h D oD zs n h' tk (Fr.up F hkp) (News.add (News.up N hkp) F hD ho) hc hd' (ptF_ints F N hs hP PS)
end
end

-- P15
local macro_rules | `(tactic| walk_at "compareOp NotEq ref ref") => `(tactic| (k_here; (with_reducible show wpAny _ _ (compareOp CmpOp.NotEq (Value.ref _) (Value.ref _)) _ _ _); k_dflt (refine' ne_nil ?F ?N ?m ?c ?d ?P ?s ?m2 ?u ?_; (case F => k_asm); (case N => k_asm); (case m2 => walk_at "m_mm"); (case m => walk_at "m_mm"); (case c => with_reducible assumption); (case d => with_reducible assumption); (case P => with_reducible assumption); (case s => walk_at "m_sub"); (case u => walk_at "m_room"))))
theorem rs17 {M : Model} {A : Around} {env : Env} {E : Value → Shared → Prop} {Q : Flow → Shared → Prop} {s : Shared} (h : wpAny M A (execs [] env) Q E s) : wpAny M A (execs [] env) Q E s := by
  w_top off
  first | (walk1; done) | exact h

section
local macro_rules | `(tactic| walk_at "eval ListComp") => `(tactic| (k_here; k_dflt ((first | ((with_reducible show wpAny _ _ (eval (Expr.ListComp (Expr.Subscript (Expr.Name _ _) (Expr.Constant (Const.int 0) _ _) _) [_] _ _) _) _ _ _); refine' comp_fst ?hck ?X ?T ?F ?hm ?hkd ?N ?hl ?c3 ?e3 ?PS ?hs ?hsz ?hclos ?hsk ?hsc ?_) | ((with_reducible show wpAny _ _ (eval (Expr.ListComp (Expr.Subscript (Expr.Name _ _) (Expr.Constant (Const.int 1) _ _) _) [_] _ _) _) _ _ _); refine' comp_snd ?hck ?X ?T ?F ?hm ?hkd ?N ?hl ?c3 ?e3 ?PS ?hs ?hsz ?hclos ?hsk ?hsc ?_)); (case hck => exact rfl); (case X => k_asm); (case T => k_asm); (case F => k_asm); (case hm => exact rfl); (case hkd => exact rfl); (case N => k_asm); (case hl => k_mem); (case c3 => with_reducible assumption); (case e3 => with_reducible assumption); (case PS => with_reducible assumption); (case hs => walk_at "m_sub"); (case hsz => with_reducible assumption); (case hclos => exact rfl); (case hsk => exact rfl); (case hsc => exact rfl)); intro D' oD' zs' n' h' tk' F' N' hc' hd' hi'; (try dsimp only)))
local macro_rules | `(tactic| walk_at "m_mnx") => `(tactic| ((case F => k_asm); (case N => k_asm); (case m => k_mem); (case c => with_reducible assumption); (case d => with_reducible assumption); (case i => with_reducible assumption); (case ne => with_reducible assumption); (case hh => exact rfl); (case b => with_reducible assumption)))
local macro_rules | `(tactic| walk_at "call builtin:min") => `(tactic| (k_here; (with_reducible show wpAny _ _ (call (Value.builtin _) [Value.ref _]) _ _ _); k_dflt (refine' min_obj ?F ?N ?m ?c ?d ?i ?ne ?hh ?b ?_; walk_at "m_mnx"); intro h' M' t' tk' F' N' a1' a2' a3' a4'; (try dsimp only)))
local macro_rules | `(tactic| walk_at "call builtin:max") => `(tactic| (k_here; (with_reducible show wpAny _ _ (call (Value.builtin _) [Value.ref _]) _ _ _); k_dflt (refine' max_obj ?F ?N ?m ?c ?d ?i ?ne ?hh ?b ?_; walk_at "m_mnx"); intro h' M' t' tk' F' N' a1' a2' a3' a4'; (try dsimp only)))

section
variable {w : World} {dp un : Nat} {gd : Option (List Code)} {cn : Str} {cs : Scope} {L aa c0 l : Addr} {ccd : Value} {outer : List Env} {A₀ : Around} {base h₀ : Heap} {m0 : Str → Option Value} {mean : ExcName → Option Value} {mg mb : Str → Option Value} {s : Shared} {E : Value → Shared → Prop} {st : List Stmt} {Q : Flow → Shared → Prop}
set_option maxHeartbeats 400000 in
theorem chunkD0 {x wd y ht a c b d : Int} {tx tw ty th ta tc tb td : Tok} {lc lr one done two dtwo : Addr} {cvs rvs : List Value} {nc nr : Nat} {cols rows : List Int} {ka kb kc kd ke ja jb jc jd je : Tok} {lm lo : Addr} {om oo oc : Obj} {mvs ovs : Array Value} {nm no : Nat} {lsh : Addr} {osh : Obj} {svs : Array Value} {nsh : Nat} {lin : Addr} {oin : Obj} {ivs : Array Value} {nin : Nat} {imm : List (Addr × Obj)} {sh inn : List (Int × Int)} (hst : st = (lawB.drop 12).take 2) (hcs : cs = lawS) (hd : dp ≤ 310) (hu : un ≤ 1000) (hb : Below A₀ base outer h₀) (X : (Mine.K0 w.params).In h₀) (T : Top Mine.Vw (looseW Mine.Vw [Str.ofString "Rectangle"]) mean mg mb h₀) (F : Fr h₀ L s.heap (fun q => if q = Str.ofString "inner" then some (.ref lin) else if q = Str.ofString "shared" then some (.ref lsh) else if q = Str.ofString "mine" then some (.ref lm) else if q = Str.ofString "two" then some (.ref two) else if q = Str.ofString "one" then some (.ref one) else if q = Str.ofString "rows" then some (.ref lr) else if q = Str.ofString "columns" then some (.ref lc) else if q = Str.ofString "d" then some (.int d td) else if q = Str.ofString "b" then some (.int b tb) else if q = Str.ofString "c" then some (.int c tc) else if q = Str.ofString "a" then some (.int a ta) else if q = Str.ofString "h" then some (.int ht th) else if q = Str.ofString "y" then some (.int y ty) else if q = Str.ofString "w" then some (.int wd tw) else if q = Str.ofString "x" then some (.int x tx) else if q = Str.ofString "script" then some (.ref l) else m0 q)) (N : News h₀ L s.heap ((lin, oin) :: (lsh, osh) :: (lm, om) :: (lo, oo) :: (one, instObj 203 done) :: (done, rd w.params ka kb kc kd ke x y wd ht tx ty tw th) :: (two, instObj 203 dtwo) :: (dtwo, rd w.params ja jb jc jd je a b c d ta tb tc td) :: (lc, listOf cvs.toArray nc) :: (lr, listOf rvs.toArray nr) :: (c0, oc) :: imm)) (c1 : om.cls = .type "list") (d1 : om.data = .seq mvs nm) (c2 : oo.cls = .type "list") (d2 : oo.data = .seq ovs no) (c3 : osh.cls = .type "list") (e3 : osh.data = .seq svs nsh) (c4 : oin.cls = .type "list") (e4 : oin.data = .seq ivs nin) (d3 : oc.data = .cell (some (.ref lo))) (PS : Paired (PtS h₀ imm) svs.toList sh) (PI : Paired (PtS h₀ imm) ivs.toList inn) (s1 : mvs.size ≤ 81) (s2 : ovs.size ≤ 81) (s3 : svs.size ≤ 81) (z1 : 0 ≤ wd) (z2 : 0 ≤ ht) (z3 : 0 ≤ c) (z4 : 0 ≤ d) (h0 : sh = [])
    (hk : ∀ (dv : Value) (lw lf : Option Value) (h' : Heap) (tk' : Nat), dv = .none → Fr h₀ L h' (fun q => if q = Str.ofString "due" then some dv else if q = Str.ofString "left" then lf else if q = Str.ofString "low" then lw else if q = Str.ofString "inner" then some (.ref lin) else if q = Str.ofString "shared" then some (.ref lsh) else if q = Str.ofString "mine" then some (.ref lm) else if q = Str.ofString "two" then some (.ref two) else if q = Str.ofString "one" then some (.ref one) else if q = Str.ofString "rows" then some (.ref lr) else if q = Str.ofString "columns" then some (.ref lc) else if q = Str.ofString "d" then some (.int d td) else if q = Str.ofString "b" then some (.int b tb) else if q = Str.ofString "c" then some (.int c tc) else if q = Str.ofString "a" then some (.int a ta) else if q = Str.ofString "h" then some (.int ht th) else if q = Str.ofString "y" then some (.int y ty) else if q = Str.ofString "w" then some (.int wd tw) else if q = Str.ofString "x" then some (.int x tx) else if q = Str.ofString "script" then some (.ref l) else m0 q) → News h₀ L h' ((lin, oin) :: (lsh, osh) :: (lm, om) :: (lo, oo) :: (one, instObj 203 done) :: (done, rd w.params ka kb kc kd ke x y wd ht tx ty tw th) :: (two, instObj 203 dtwo) :: (dtwo, rd w.params ja jb jc jd je a b c d ta tb tc td) :: (lc, listOf cvs.toArray nc) :: (lr, listOf rvs.toArray nr) :: (c0, oc) :: imm) → Q .next { s with heap := h', toks := tk' }) : wpAny (model PySem.Challenge.rw_jb0029_01.row.prog w) (ktrTop dp un gd cn cs L aa ccd [(Str.ofString "other", c0)] outer) (execs st (envX cn cs L aa ccd [(Str.ofString "other", c0)])) Q E s := by
  have hst2 : st = [_, _] := hst
  have hcs2 : cs = Scope.mk _ _ _ _ _ := hcs
  subst hst2 hcs2
  clear hst hcs
  have hq : decide (sh ≠ []) = false := by simp [h0]
  refine cps ?_
  intro qz hqz
  k_steps
  (try dsimp only)
  with_reducible rename News _ _ _ (_ :: _ :: _) => N9
  refine hqz _ _ (hk .none (m0 (Str.ofString "low")) (m0 (Str.ofString "left")) _ _ rfl (Fr.eqm (by k_asm) (fr5_0 (k1 := Str.ofString "left") (k2 := Str.ofString "low") rfl rfl)) fun p hp => N9 p (.tail _ hp))

set_option maxHeartbeats 1000000 in
theorem chunkD1 {x wd y ht a c b d : Int} {tx tw ty th ta tc tb td : Tok} {lc lr one done two dtwo : Addr} {cvs rvs : List Value} {nc nr : Nat} {cols rows : List Int} {ka kb kc kd ke ja jb jc jd je : Tok} {lm lo : Addr} {om oo oc : Obj} {mvs ovs : Array Value} {nm no : Nat} {lsh : Addr} {osh : Obj} {svs : Array Value} {nsh : Nat} {lin : Addr} {oin : Obj} {ivs : Array Value} {nin : Nat} {imm : List (Addr × Obj)} {sh inn : List (Int × Int)} (hst : st = (lawB.drop 12).take 2) (hcs : cs = lawS) (hd : dp ≤ 310) (hu : un ≤ 1000) (hb : Below A₀ base outer h₀) (X : (Mine.K0 w.params).In h₀) (T : Top Mine.Vw (looseW Mine.Vw [Str.ofString "Rectangle"]) mean mg mb h₀) (F : Fr h₀ L s.heap (fun q => if q = Str.ofString "inner" then some (.ref lin) else if q = Str.ofString "shared" then some (.ref lsh) else if q = Str.ofString "mine" then some (.ref lm) else if q = Str.ofString "two" then some (.ref two) else if q = Str.ofString "one" then some (.ref one) else if q = Str.ofString "rows" then some (.ref lr) else if q = Str.ofString "columns" then some (.ref lc) else if q = Str.ofString "d" then some (.int d td) else if q = Str.ofString "b" then some (.int b tb) else if q = Str.ofString "c" then some (.int c tc) else if q = Str.ofString "a" then some (.int a ta) else if q = Str.ofString "h" then some (.int ht th) else if q = Str.ofString "y" then some (.int y ty) else if q = Str.ofString "w" then some (.int wd tw) else if q = Str.ofString "x" then some (.int x tx) else if q = Str.ofString "script" then some (.ref l) else m0 q)) (N : News h₀ L s.heap ((lin, oin) :: (lsh, osh) :: (lm, om) :: (lo, oo) :: (one, instObj 203 done) :: (done, rd w.params ka kb kc kd ke x y wd ht tx ty tw th) :: (two, instObj 203 dtwo) :: (dtwo, rd w.params ja jb jc jd je a b c d ta tb tc td) :: (lc, listOf cvs.toArray nc) :: (lr, listOf rvs.toArray nr) :: (c0, oc) :: imm)) (c1 : om.cls = .type "list") (d1 : om.data = .seq mvs nm) (c2 : oo.cls = .type "list") (d2 : oo.data = .seq ovs no) (c3 : osh.cls = .type "list") (e3 : osh.data = .seq svs nsh) (c4 : oin.cls = .type "list") (e4 : oin.data = .seq ivs nin) (d3 : oc.data = .cell (some (.ref lo))) (PS : Paired (PtS h₀ imm) svs.toList sh) (PI : Paired (PtS h₀ imm) ivs.toList inn) (s1 : mvs.size ≤ 81) (s2 : ovs.size ≤ 81) (s3 : svs.size ≤ 81) (z1 : 0 ≤ wd) (z2 : 0 ≤ ht) (z3 : 0 ≤ c) (z4 : 0 ≤ d) (h0 : sh ≠ [])
    (i1 : IntsAre cvs cols) (i2 : IntsAre rvs rows) (g1 : sh.map Prod.fst ≠ []) (g2 : sh.map Prod.snd ≠ []) (b1 : ∀ z ∈ sh.map Prod.fst, 0 ≤ z.fdiv 2 ∧ z.fdiv 2 < (cols.length : Int)) (b2 : ∀ z ∈ sh.map Prod.snd, 0 ≤ z.fdiv 2 ∧ z.fdiv 2 < (rows.length : Int))
    (n1 : cols.length ≤ 4) (n2 : rows.length ≤ 4)
    (q1 : ∀ M, (∀ z ∈ sh.map Prod.fst, M ≤ z) → M ∈ sh.map Prod.fst → cols.getD (M.fdiv 2).toNat 0 = max x a) (q2 : ∀ M, (∀ z ∈ sh.map Prod.snd, M ≤ z) → M ∈ sh.map Prod.snd → rows.getD (M.fdiv 2).toNat 0 = max y b)
    (q3 : ∀ M, (∀ z ∈ sh.map Prod.fst, z ≤ M) → M ∈ sh.map Prod.fst → cols.getD (M.fdiv 2).toNat 0 = min (x + wd) (a + c)) (q4 : ∀ M, (∀ z ∈ sh.map Prod.snd, z ≤ M) → M ∈ sh.map Prod.snd → rows.getD (M.fdiv 2).toNat 0 = min (y + ht) (b + d))
    (hk : ∀ (T : Addr) (n : Nat) (t1 t2 t3 t4 : Tok) (dv : Value) (lw lf : Option Value) (h' : Heap) (tk' : Nat), dv = .ref T → Fr h₀ L h' (fun q => if q = Str.ofString "due" then some dv else if q = Str.ofString "left" then lf else if q = Str.ofString "low" then lw else if q = Str.ofString "inner" then some (.ref lin) else if q = Str.ofString "shared" then some (.ref lsh) else if q = Str.ofString "mine" then some (.ref lm) else if q = Str.ofString "two" then some (.ref two) else if q = Str.ofString "one" then some (.ref one) else if q = Str.ofString "rows" then some (.ref lr) else if q = Str.ofString "columns" then some (.ref lc) else if q = Str.ofString "d" then some (.int d td) else if q = Str.ofString "b" then some (.int b tb) else if q = Str.ofString "c" then some (.int c tc) else if q = Str.ofString "a" then some (.int a ta) else if q = Str.ofString "h" then some (.int ht th) else if q = Str.ofString "y" then some (.int y ty) else if q = Str.ofString "w" then some (.int wd tw) else if q = Str.ofString "x" then some (.int x tx) else if q = Str.ofString "script" then some (.ref l) else m0 q) →
      News h₀ L h' ((T, { cls := .type "tuple", data := .seq [.int (max x a) t1, .int (max y b) t2, .int (min (x + wd) (a + c) - max x a) t3, .int (min (y + ht) (b + d) - max y b) t4].toArray n }) :: ((lin, oin) :: (lsh, osh) :: (lm, om) :: (lo, oo) :: (one, instObj 203 done) :: (done, rd w.params ka kb kc kd ke x y wd ht tx ty tw th) :: (two, instObj 203 dtwo) :: (dtwo, rd w.params ja jb jc jd je a b c d ta tb tc td) :: (lc, listOf cvs.toArray nc) :: (lr, listOf rvs.toArray nr) :: (c0, oc) :: imm)) → Q .next { s with heap := h', toks := tk' }) : wpAny (model PySem.Challenge.rw_jb0029_01.row.prog w) (ktrTop dp un gd cn cs L aa ccd [(Str.ofString "other", c0)] outer) (execs st (envX cn cs L aa ccd [(Str.ofString "other", c0)])) Q E s := by
  have hst2 : st = [_, _] := hst
  have hcs2 : cs = Scope.mk _ _ _ _ _ := hcs
  subst hst2 hcs2
  clear hst hcs
  have hq : decide (sh ≠ []) = true := by simp [h0]
  refine cps ?_
  intro qz hqz
  k_steps
  (try dsimp only)
  have e1 := q1 _ (by assumption) (by assumption)
  have e2 := q2 _ (by assumption) (by assumption)
  have e3 := q3 _ (by assumption) (by assumption)
  have e4 := q4 _ (by assumption) (by assumption)
  with_reducible rename News _ _ _ (_ :: _ :: _ :: _ :: _) => N9
  simp only [e1, e2, e3, e4] at N9
  refine' hqz _ _ (hk _ _ _ _ _ _ _ _ _ _ _ rfl (Fr.eqm ?F fr5_1) ?N)
  case F => k_asm
  case N => walk_at "m_news"
end
end

-- P16
local macro_rules | `(tactic| walk_at "compareOp NotEq ref ref") => `(tactic| (k_here; (with_reducible show wpAny _ _ (compareOp CmpOp.NotEq (Value.ref _) (Value.ref _)) _ _ _); k_dflt (refine' ne_tup4 ?N ?m1 ?m2 ?u ?_; (case N => k_asm); (case m1 => walk_at "m_mm"); (case m2 => walk_at "m_mm"); (case u => walk_at "m_room"))))
local macro_rules | `(tactic| walk_at "m_compareOpNotEqnonenone") => `(tactic| (k_here; (with_reducible show wpAny _ _ (compareOp CmpOp.NotEq Value.none Value.none) _ _ _); k_dflt (refine' ne_none ?u ?_; (case u => walk_at "m_room"))))
local macro_rules | `(tactic| walk_at "compareOp NotEq none none") => `(tactic| walk_at "m_compareOpNotEqnonenone")
local macro_rules | `(tactic| walk_at "compareOp NotEq none") => `(tactic| walk_at "m_compareOpNotEqnonenone")
local macro_rules | `(tactic| walk_at "compareOp Eq ref ref") => `(tactic| (k_here; (with_reducible show wpAny _ _ (compareOp CmpOp.Eq (Value.ref _) (Value.ref _)) _ _ _); k_dflt (refine' eq_tup4 ?N ?m1 ?m2 ?u ?_; (case N => k_asm); (case m1 => walk_at "m_mm"); (case m2 => walk_at "m_mm"); (case u => walk_at "m_room"))))
local macro_rules | `(tactic| walk_at "m_compareOpEqref") => `(tactic| (k_here; (with_reducible show wpAny _ _ (compareOp CmpOp.Eq (Value.ref _) (Value.ref _)) _ _ _); (refine cmp_ofEq ?_); k_dflt (refine' cmp_K ?k1 ?k2 ?k3 ?k4 ?k5 ?k6 ?k7 ?k8 ?_; (case k1 => walk_at "m_room"); (case k2 => k_asm); (case k3 => k_asm); (case k4 => k_inst); (case k5 => (refine' InstAt.type ?I; (case I => k_inst))); (case k6 => k_is); (case k7 => k_is); (case k8 => k_is); k_whole)))
local macro_rules | `(tactic| walk_at "compareOp Eq ref") => `(tactic| walk_at "m_compareOpEqref")
local macro_rules | `(tactic| walk_at "compareOp Eq ref ref") => `(tactic| walk_at "m_compareOpEqref")
local macro_rules | `(tactic| walk_at "m_compareOpLtref") => `(tactic| (k_here; (with_reducible show wpAny _ _ (compareOp CmpOp.Lt (Value.ref _) (Value.ref _)) _ _ _); (refine cmp_ofLt ?_); k_dflt (refine' cmp_K ?k1 ?k2 ?k3 ?k4 ?k5 ?k6 ?k7 ?k8 ?_; (case k1 => walk_at "m_room"); (case k2 => k_asm); (case k3 => k_asm); (case k4 => k_inst); (case k5 => (refine' InstAt.type ?I; (case I => k_inst))); (case k6 => k_is); (case k7 => k_is); (case k8 => k_is); k_whole)))
local macro_rules | `(tactic| walk_at "compareOp Lt ref") => `(tactic| walk_at "m_compareOpLtref")
local macro_rules | `(tactic| walk_at "compareOp Lt ref ref") => `(tactic| walk_at "m_compareOpLtref")
theorem rs18 {M : Model} {A : Around} {env : Env} {E : Value → Shared → Prop} {Q : Flow → Shared → Prop} {s : Shared} (h : wpAny M A (execs [] env) Q E s) : wpAny M A (execs [] env) Q E s := by
  w_top off
  first | (walk1; done) | exact h

section
section
variable {w : World} {dp un : Nat} {gd : Option (List Code)} {cn : Str} {cs : Scope} {L aa c0 l : Addr} {ccd : Value} {outer : List Env} {A₀ : Around} {base h₀ : Heap} {m0 : Str → Option Value} {mean : ExcName → Option Value} {mg mb : Str → Option Value} {s : Shared} {E : Value → Shared → Prop} {st : List Stmt} {Q : Flow → Shared → Prop}
set_option maxHeartbeats 400000 in
theorem chunkE14 {x wd y ht a c b d : Int} {tx tw ty th ta tc tb td : Tok} {lc lr one done two dtwo : Addr} {cvs rvs : List Value} {nc nr : Nat} {cols rows : List Int} {ka kb kc kd ke ja jb jc jd je : Tok} {lm lo : Addr} {om oo oc : Obj} {mvs ovs : Array Value} {nm no : Nat} {lsh : Addr} {osh : Obj} {svs : Array Value} {nsh : Nat} {lin : Addr} {oin : Obj} {ivs : Array Value} {nin : Nat} {dv : Value} {lf lw : Option Value} {imm : List (Addr × Obj)} {sh inn : List (Int × Int)} (hst : st = (lawB.drop 14).take 1) (hcs : cs = lawS) (hd : dp ≤ 310) (hu : un ≤ 1000) (hb : Below A₀ base outer h₀) (X : (Mine.K0 w.params).In h₀) (T : Top Mine.Vw (looseW Mine.Vw [Str.ofString "Rectangle"]) mean mg mb h₀) (F : Fr h₀ L s.heap (fun q => if q = Str.ofString "due" then some dv else if q = Str.ofString "left" then lf else if q = Str.ofString "low" then lw else if q = Str.ofString "inner" then some (.ref lin) else if q = Str.ofString "shared" then some (.ref lsh) else if q = Str.ofString "mine" then some (.ref lm) else if q = Str.ofString "two" then some (.ref two) else if q = Str.ofString "one" then some (.ref one) else if q = Str.ofString "rows" then some (.ref lr) else if q = Str.ofString "columns" then some (.ref lc) else if q = Str.ofString "d" then some (.int d td) else if q = Str.ofString "b" then some (.int b tb) else if q = Str.ofString "c" then some (.int c tc) else if q = Str.ofString "a" then some (.int a ta) else if q = Str.ofString "h" then some (.int ht th) else if q = Str.ofString "y" then some (.int y ty) else if q = Str.ofString "w" then some (.int wd tw) else if q = Str.ofString "x" then some (.int x tx) else if q = Str.ofString "script" then some (.ref l) else m0 q)) (N : News h₀ L s.heap ((lin, oin) :: (lsh, osh) :: (lm, om) :: (lo, oo) :: (one, instObj 203 done) :: (done, rd w.params ka kb kc kd ke x y wd ht tx ty tw th) :: (two, instObj 203 dtwo) :: (dtwo, rd w.params ja jb jc jd je a b c d ta tb tc td) :: (lc, listOf cvs.toArray nc) :: (lr, listOf rvs.toArray nr) :: (c0, oc) :: imm)) (c1 : om.cls = .type "list") (d1 : om.data = .seq mvs nm) (c2 : oo.cls = .type "list") (d2 : oo.data = .seq ovs no) (c3 : osh.cls = .type "list") (e3 : osh.data = .seq svs nsh) (c4 : oin.cls = .type "list") (e4 : oin.data = .seq ivs nin) (d3 : oc.data = .cell (some (.ref lo))) (PS : Paired (PtS h₀ imm) svs.toList sh) (PI : Paired (PtS h₀ imm) ivs.toList inn) (s1 : mvs.size ≤ 81) (s2 : ovs.size ≤ 81) (s3 : svs.size ≤ 81) (z1 : 0 ≤ wd) (z2 : 0 ≤ ht) (z3 : 0 ≤ c) (z4 : 0 ≤ d)
    (k1 : decide (y ≤ b + d ∧ b ≤ y + ht ∧ x ≤ a + c ∧ a ≤ x + wd) = decide (sh ≠ [])) (k2 : decide (b ≤ y + ht ∧ y ≤ b + d ∧ a ≤ x + wd ∧ x ≤ a + c) = decide (sh ≠ []))
    (hk : ∀ (h' : Heap) (tk' : Nat), Fr h₀ L h' (fun q => if q = Str.ofString "due" then some dv else if q = Str.ofString "left" then lf else if q = Str.ofString "low" then lw else if q = Str.ofString "inner" then some (.ref lin) else if q = Str.ofString "shared" then some (.ref lsh) else if q = Str.ofString "mine" then some (.ref lm) else if q = Str.ofString "two" then some (.ref two) else if q = Str.ofString "one" then some (.ref one) else if q = Str.ofString "rows" then some (.ref lr) else if q = Str.ofString "columns" then some (.ref lc) else if q = Str.ofString "d" then some (.int d td) else if q = Str.ofString "b" then some (.int b tb) else if q = Str.ofString "c" then some (.int c tc) else if q = Str.ofString "a" then some (.int a ta) else if q = Str.ofString "h" then some (.int ht th) else if q = Str.ofString "y" then some (.int y ty) else if q = Str.ofString "w" then some (.int wd tw) else if q = Str.ofString "x" then some (.int x tx) else if q = Str.ofString "script" then some (.ref l) else m0 q) → News h₀ L h' ((lin, oin) :: (lsh, osh) :: (lm, om) :: (lo, oo) :: (one, instObj 203 done) :: (done, rd w.params ka kb kc kd ke x y wd ht tx ty tw th) :: (two, instObj 203 dtwo) :: (dtwo, rd w.params ja jb jc jd je a b c d ta tb tc td) :: (lc, listOf cvs.toArray nc) :: (lr, listOf rvs.toArray nr) :: (c0, oc) :: imm) → Q .next { s with heap := h', toks := tk' }) : wpAny (model PySem.Challenge.rw_jb0029_01.row.prog w) (ktrTop dp un gd cn cs L aa ccd [(Str.ofString "other", c0)] outer) (execs st (envX cn cs L aa ccd [(Str.ofString "other", c0)])) Q E s := by
  have hst2 : st = [_] := hst
  have hcs2 : cs = Scope.mk _ _ _ _ _ := hcs
  subst hst2 hcs2
  clear hst hcs
  have p1 := ne_same k1
  have p2 := ne_same k2
  refine cps ?_
  intro qz hqz
  k_steps
  all_goals first | (rename_i a1; rw [k1] at a1; simp at a1; done) | (rename_i a1; rw [k2] at a1; simp at a1; done) | ((try dsimp only); exact hqz _ _ (hk _ _ (by k_asm) (by walk_at "m_news"))) 
set_option maxHeartbeats 400000 in
theorem chunkE15a {x wd y ht a c b d : Int} {tx tw ty th ta tc tb td : Tok} {lc lr one done two dtwo : Addr} {cvs rvs : List Value} {nc nr : Nat} {cols rows : List Int} {ka kb kc kd ke ja jb jc jd je : Tok} {lm lo : Addr} {om oo oc : Obj} {mvs ovs : Array Value} {nm no : Nat} {lsh : Addr} {osh : Obj} {svs : Array Value} {nsh : Nat} {lin : Addr} {oin : Obj} {ivs : Array Value} {nin : Nat} {dv : Value} {lf lw : Option Value} {imm : List (Addr × Obj)} {sh inn : List (Int × Int)} (hst : st = (lawB.drop 15).take 1) (hcs : cs = lawS) (hd : dp ≤ 310) (hu : un ≤ 1000) (hb : Below A₀ base outer h₀) (X : (Mine.K0 w.params).In h₀) (T : Top Mine.Vw (looseW Mine.Vw [Str.ofString "Rectangle"]) mean mg mb h₀) (F : Fr h₀ L s.heap (fun q => if q = Str.ofString "due" then some dv else if q = Str.ofString "left" then lf else if q = Str.ofString "low" then lw else if q = Str.ofString "inner" then some (.ref lin) else if q = Str.ofString "shared" then some (.ref lsh) else if q = Str.ofString "mine" then some (.ref lm) else if q = Str.ofString "two" then some (.ref two) else if q = Str.ofString "one" then some (.ref one) else if q = Str.ofString "rows" then some (.ref lr) else if q = Str.ofString "columns" then some (.ref lc) else if q = Str.ofString "d" then some (.int d td) else if q = Str.ofString "b" then some (.int b tb) else if q = Str.ofString "c" then some (.int c tc) else if q = Str.ofString "a" then some (.int a ta) else if q = Str.ofString "h" then some (.int ht th) else if q = Str.ofString "y" then some (.int y ty) else if q = Str.ofString "w" then some (.int wd tw) else if q = Str.ofString "x" then some (.int x tx) else if q = Str.ofString "script" then some (.ref l) else m0 q)) (N : News h₀ L s.heap ((lin, oin) :: (lsh, osh) :: (lm, om) :: (lo, oo) :: (one, instObj 203 done) :: (done, rd w.params ka kb kc kd ke x y wd ht tx ty tw th) :: (two, instObj 203 dtwo) :: (dtwo, rd w.params ja jb jc jd je a b c d ta tb tc td) :: (lc, listOf cvs.toArray nc) :: (lr, listOf rvs.toArray nr) :: (c0, oc) :: imm)) (c1 : om.cls = .type "list") (d1 : om.data = .seq mvs nm) (c2 : oo.cls = .type "list") (d2 : oo.data = .seq ovs no) (c3 : osh.cls = .type "list") (e3 : osh.data = .seq svs nsh) (c4 : oin.cls = .type "list") (e4 : oin.data = .seq ivs nin) (d3 : oc.data = .cell (some (.ref lo))) (PS : Paired (PtS h₀ imm) svs.toList sh) (PI : Paired (PtS h₀ imm) ivs.toList inn) (s1 : mvs.size ≤ 81) (s2 : ovs.size ≤ 81) (s3 : svs.size ≤ 81) (z1 : 0 ≤ wd) (z2 : 0 ≤ ht) (z3 : 0 ≤ c) (z4 : 0 ≤ d)
    (k1 : ¬ (y ≤ b + d ∧ b ≤ y + ht ∧ x ≤ a + c ∧ a ≤ x + wd)) (kdv : dv = .none)
    (hk : ∀ (h' : Heap) (tk' : Nat), Fr h₀ L h' (fun q => if q = Str.ofString "due" then some dv else if q = Str.ofString "left" then lf else if q = Str.ofString "low" then lw else if q = Str.ofString "inner" then some (.ref lin) else if q = Str.ofString "shared" then some (.ref lsh) else if q = Str.ofString "mine" then some (.ref lm) else if q = Str.ofString "two" then some (.ref two) else if q = Str.ofString "one" then some (.ref one) else if q = Str.ofString "rows" then some (.ref lr) else if q = Str.ofString "columns" then some (.ref lc) else if q = Str.ofString "d" then some (.int d td) else if q = Str.ofString "b" then some (.int b tb) else if q = Str.ofString "c" then some (.int c tc) else if q = Str.ofString "a" then some (.int a ta) else if q = Str.ofString "h" then some (.int ht th) else if q = Str.ofString "y" then some (.int y ty) else if q = Str.ofString "w" then some (.int wd tw) else if q = Str.ofString "x" then some (.int x tx) else if q = Str.ofString "script" then some (.ref l) else m0 q) → News h₀ L h' ((lin, oin) :: (lsh, osh) :: (lm, om) :: (lo, oo) :: (one, instObj 203 done) :: (done, rd w.params ka kb kc kd ke x y wd ht tx ty tw th) :: (two, instObj 203 dtwo) :: (dtwo, rd w.params ja jb jc jd je a b c d ta tb tc td) :: (lc, listOf cvs.toArray nc) :: (lr, listOf rvs.toArray nr) :: (c0, oc) :: imm) → Q .next { s with heap := h', toks := tk' }) : wpAny (model PySem.Challenge.rw_jb0029_01.row.prog w) (ktrTop dp un gd cn cs L aa ccd [(Str.ofString "other", c0)] outer) (execs st (envX cn cs L aa ccd [(Str.ofString "other", c0)])) Q E s := by
  have hst2 : st = [_] := hst
  have hcs2 : cs = Scope.mk _ _ _ _ _ := hcs
  subst hst2 hcs2
  subst kdv
  clear hst hcs
  refine cps ?_
  intro qz hqz
  k_steps
  (try dsimp only)
  exact hqz _ _ (hk _ _ (by k_asm) (by walk_at "m_news"))
set_option maxHeartbeats 400000 in
theorem chunkE15b {x wd y ht a c b d : Int} {tx tw ty th ta tc tb td : Tok} {lc lr one done two dtwo : Addr} {cvs rvs : List Value} {nc nr : Nat} {cols rows : List Int} {ka kb kc kd ke ja jb jc jd je : Tok} {lm lo : Addr} {om oo oc : Obj} {mvs ovs : Array Value} {nm no : Nat} {lsh : Addr} {osh : Obj} {svs : Array Value} {nsh : Nat} {lin : Addr} {oin : Obj} {ivs : Array Value} {nin : Nat} {dv : Value} {lf lw : Option Value} {imm : List (Addr × Obj)} {sh inn : List (Int × Int)} {TD : Addr} {g1 g2 g3 g4 : Tok} {ng : Nat} (hst : st = (lawB.drop 15).take 1) (hcs : cs = lawS) (hd : dp ≤ 310) (hu : un ≤ 1000) (hb : Below A₀ base outer h₀) (X : (Mine.K0 w.params).In h₀) (T : Top Mine.Vw (looseW Mine.Vw [Str.ofString "Rectangle"]) mean mg mb h₀) (F : Fr h₀ L s.heap (fun q => if q = Str.ofString "due" then some dv else if q = Str.ofString "left" then lf else if q = Str.ofString "low" then lw else if q = Str.ofString "inner" then some (.ref lin) else if q = Str.ofString "shared" then some (.ref lsh) else if q = Str.ofString "mine" then some (.ref lm) else if q = Str.ofString "two" then some (.ref two) else if q = Str.ofString "one" then some (.ref one) else if q = Str.ofString "rows" then some (.ref lr) else if q = Str.ofString "columns" then some (.ref lc) else if q = Str.ofString "d" then some (.int d td) else if q = Str.ofString "b" then some (.int b tb) else if q = Str.ofString "c" then some (.int c tc) else if q = Str.ofString "a" then some (.int a ta) else if q = Str.ofString "h" then some (.int ht th) else if q = Str.ofString "y" then some (.int y ty) else if q = Str.ofString "w" then some (.int wd tw) else if q = Str.ofString "x" then some (.int x tx) else if q = Str.ofString "script" then some (.ref l) else m0 q)) (N : News h₀ L s.heap ((lin, oin) :: (lsh, osh) :: (lm, om) :: (lo, oo) :: (one, instObj 203 done) :: (done, rd w.params ka kb kc kd ke x y wd ht tx ty tw th) :: (two, instObj 203 dtwo) :: (dtwo, rd w.params ja jb jc jd je a b c d ta tb tc td) :: (lc, listOf cvs.toArray nc) :: (lr, listOf rvs.toArray nr) :: (c0, oc) :: imm)) (c1 : om.cls = .type "list") (d1 : om.data = .seq mvs nm) (c2 : oo.cls = .type "list") (d2 : oo.data = .seq ovs no) (c3 : osh.cls = .type "list") (e3 : osh.data = .seq svs nsh) (c4 : oin.cls = .type "list") (e4 : oin.data = .seq ivs nin) (d3 : oc.data = .cell (some (.ref lo))) (PS : Paired (PtS h₀ imm) svs.toList sh) (PI : Paired (PtS h₀ imm) ivs.toList inn) (s1 : mvs.size ≤ 81) (s2 : ovs.size ≤ 81) (s3 : svs.size ≤ 81) (z1 : 0 ≤ wd) (z2 : 0 ≤ ht) (z3 : 0 ≤ c) (z4 : 0 ≤ d)
    (k1 : y ≤ b + d ∧ b ≤ y + ht ∧ x ≤ a + c ∧ a ≤ x + wd) (kdv : dv = .ref TD) (hT : (TD, ({ cls := .type "tuple", data := .seq [.int (max x a) g1, .int (max y b) g2, .int (min (x + wd) (a + c) - max x a) g3, .int (min (y + ht) (b + d) - max y b) g4].toArray ng } : Obj)) ∈ imm)
    (hk : ∀ (h' : Heap) (tk' : Nat), Fr h₀ L h' (fun q => if q = Str.ofString "due" then some dv else if q = Str.ofString "left" then lf else if q = Str.ofString "low" then lw else if q = Str.ofString "inner" then some (.ref lin) else if q = Str.ofString "shared" then some (.ref lsh) else if q = Str.ofString "mine" then some (.ref lm) else if q = Str.ofString "two" then some (.ref two) else if q = Str.ofString "one" then some (.ref one) else if q = Str.ofString "rows" then some (.ref lr) else if q = Str.ofString "columns" then some (.ref lc) else if q = Str.ofString "d" then some (.int d td) else if q = Str.ofString "b" then some (.int b tb) else if q = Str.ofString "c" then some (.int c tc) else if q = Str.ofString "a" then some (.int a ta) else if q = Str.ofString "h" then some (.int ht th) else if q = Str.ofString "y" then some (.int y ty) else if q = Str.ofString "w" then some (.int wd tw) else if q = Str.ofString "x" then some (.int x tx) else if q = Str.ofString "script" then some (.ref l) else m0 q) → News h₀ L h' ((lin, oin) :: (lsh, osh) :: (lm, om) :: (lo, oo) :: (one, instObj 203 done) :: (done, rd w.params ka kb kc kd ke x y wd ht tx ty tw th) :: (two, instObj 203 dtwo) :: (dtwo, rd w.params ja jb jc jd je a b c d ta tb tc td) :: (lc, listOf cvs.toArray nc) :: (lr, listOf rvs.toArray nr) :: (c0, oc) :: imm) → Q .next { s with heap := h', toks := tk' }) : wpAny (model PySem.Challenge.rw_jb0029_01.row.prog w) (ktrTop dp un gd cn cs L aa ccd [(Str.ofString "other", c0)] outer) (execs st (envX cn cs L aa ccd [(Str.ofString "other", c0)])) Q E s := by
  have hst2 : st = [_] := hst
  have hcs2 : cs = Scope.mk _ _ _ _ _ := hcs
  subst hst2 hcs2
  subst kdv
  clear hst hcs
  refine cps ?_
  intro qz hqz
  k_steps
  all_goals first | ((try dsimp only); exact hqz _ _ (hk _ _ (by k_asm) (by walk_at "m_news"))) | (exfalso; rename_i a1; simp at a1; done) | skip
end
end

-- P17
theorem rs19 {M : Model} {A : Around} {env : Env} {E : Value → Shared → Prop} {Q : Flow → Shared → Prop} {s : Shared} (h : wpAny M A (execs [] env) Q E s) : wpAny M A (execs [] env) Q E s := by
  w_top off
  first | (walk1; done) | exact h

section
section
variable {w : World} {dp un : Nat} {gd : Option (List Code)} {cn : Str} {cs : Scope} {L aa c0 l : Addr} {ccd : Value} {outer : List Env} {A₀ : Around} {base h₀ : Heap} {m0 : Str → Option Value} {mean : ExcName → Option Value} {mg mb : Str → Option Value} {s : Shared} {E : Value → Shared → Prop} {st : List Stmt} {Q : Flow → Shared → Prop}
set_option maxHeartbeats 400000 in
theorem chunkE16n {x wd y ht a c b d : Int} {tx tw ty th ta tc tb td : Tok} {lc lr one done two dtwo : Addr} {cvs rvs : List Value} {nc nr : Nat} {cols rows : List Int} {ka kb kc kd ke ja jb jc jd je : Tok} {lm lo : Addr} {om oo oc : Obj} {mvs ovs : Array Value} {nm no : Nat} {lsh : Addr} {osh : Obj} {svs : Array Value} {nsh : Nat} {lin : Addr} {oin : Obj} {ivs : Array Value} {nin : Nat} {dv : Value} {lf lw : Option Value} {imm : List (Addr × Obj)} {sh inn : List (Int × Int)} (hst : st = (lawB.drop 16).take 1) (hcs : cs = lawS) (hd : dp ≤ 310) (hu : un ≤ 1000) (hb : Below A₀ base outer h₀) (X : (Mine.K0 w.params).In h₀) (T : Top Mine.Vw (looseW Mine.Vw [Str.ofString "Rectangle"]) mean mg mb h₀) (F : Fr h₀ L s.heap (fun q => if q = Str.ofString "due" then some dv else if q = Str.ofString "left" then lf else if q = Str.ofString "low" then lw else if q = Str.ofString "inner" then some (.ref lin) else if q = Str.ofString "shared" then some (.ref lsh) else if q = Str.ofString "mine" then some (.ref lm) else if q = Str.ofString "two" then some (.ref two) else if q = Str.ofString "one" then some (.ref one) else if q = Str.ofString "rows" then some (.ref lr) else if q = Str.ofString "columns" then some (.ref lc) else if q = Str.ofString "d" then some (.int d td) else if q = Str.ofString "b" then some (.int b tb) else if q = Str.ofString "c" then some (.int c tc) else if q = Str.ofString "a" then some (.int a ta) else if q = Str.ofString "h" then some (.int ht th) else if q = Str.ofString "y" then some (.int y ty) else if q = Str.ofString "w" then some (.int wd tw) else if q = Str.ofString "x" then some (.int x tx) else if q = Str.ofString "script" then some (.ref l) else m0 q)) (N : News h₀ L s.heap ((lin, oin) :: (lsh, osh) :: (lm, om) :: (lo, oo) :: (one, instObj 203 done) :: (done, rd w.params ka kb kc kd ke x y wd ht tx ty tw th) :: (two, instObj 203 dtwo) :: (dtwo, rd w.params ja jb jc jd je a b c d ta tb tc td) :: (lc, listOf cvs.toArray nc) :: (lr, listOf rvs.toArray nr) :: (c0, oc) :: imm)) (c1 : om.cls = .type "list") (d1 : om.data = .seq mvs nm) (c2 : oo.cls = .type "list") (d2 : oo.data = .seq ovs no) (c3 : osh.cls = .type "list") (e3 : osh.data = .seq svs nsh) (c4 : oin.cls = .type "list") (e4 : oin.data = .seq ivs nin) (d3 : oc.data = .cell (some (.ref lo))) (PS : Paired (PtS h₀ imm) svs.toList sh) (PI : Paired (PtS h₀ imm) ivs.toList inn) (s1 : mvs.size ≤ 81) (s2 : ovs.size ≤ 81) (s3 : svs.size ≤ 81) (z1 : 0 ≤ wd) (z2 : 0 ≤ ht) (z3 : 0 ≤ c) (z4 : 0 ≤ d)
    (k1 : ¬ (0 < wd ∧ 0 < ht ∧ 0 < c ∧ 0 < d))
    (hk : ∀ (h' : Heap) (tk' : Nat), Fr h₀ L h' (fun q => if q = Str.ofString "due" then some dv else if q = Str.ofString "left" then lf else if q = Str.ofString "low" then lw else if q = Str.ofString "inner" then some (.ref lin) else if q = Str.ofString "shared" then some (.ref lsh) else if q = Str.ofString "mine" then some (.ref lm) else if q = Str.ofString "two" then some (.ref two) else if q = Str.ofString "one" then some (.ref one) else if q = Str.ofString "rows" then some (.ref lr) else if q = Str.ofString "columns" then some (.ref lc) else if q = Str.ofString "d" then some (.int d td) else if q = Str.ofString "b" then some (.int b tb) else if q = Str.ofString "c" then some (.int c tc) else if q = Str.ofString "a" then some (.int a ta) else if q = Str.ofString "h" then some (.int ht th) else if q = Str.ofString "y" then some (.int y ty) else if q = Str.ofString "w" then some (.int wd tw) else if q = Str.ofString "x" then some (.int x tx) else if q = Str.ofString "script" then some (.ref l) else m0 q) → News h₀ L h' ((lin, oin) :: (lsh, osh) :: (lm, om) :: (lo, oo) :: (one, instObj 203 done) :: (done, rd w.params ka kb kc kd ke x y wd ht tx ty tw th) :: (two, instObj 203 dtwo) :: (dtwo, rd w.params ja jb jc jd je a b c d ta tb tc td) :: (lc, listOf cvs.toArray nc) :: (lr, listOf rvs.toArray nr) :: (c0, oc) :: imm) → Q .next { s with heap := h', toks := tk' }) : wpAny (model PySem.Challenge.rw_jb0029_01.row.prog w) (ktrTop dp un gd cn cs L aa ccd [(Str.ofString "other", c0)] outer) (execs st (envX cn cs L aa ccd [(Str.ofString "other", c0)])) Q E s := by
  have hst2 : st = [_] := hst
  have hcs2 : cs = Scope.mk _ _ _ _ _ := hcs
  subst hst2 hcs2
  clear hst hcs
  refine cps ?_
  intro qz hqz
  k_steps
  all_goals first | ((try dsimp only); exact hqz _ _ (hk _ _ (by k_asm) (by walk_at "m_news"))) | (exfalso; rename_i a1; rw [k2, hq] at a1; exact absurd a1 (by decide)) | (exfalso; rename_i a1; rw [k3, hq] at a1; exact absurd a1 (by decide)) | (exfalso; rename_i a1; simp at a1; done) | skip
set_option maxHeartbeats 400000 in
theorem chunkE16a {x wd y ht a c b d : Int} {tx tw ty th ta tc tb td : Tok} {lc lr one done two dtwo : Addr} {cvs rvs : List Value} {nc nr : Nat} {cols rows : List Int} {ka kb kc kd ke ja jb jc jd je : Tok} {lm lo : Addr} {om oo oc : Obj} {mvs ovs : Array Value} {nm no : Nat} {lsh : Addr} {osh : Obj} {svs : Array Value} {nsh : Nat} {lin : Addr} {oin : Obj} {ivs : Array Value} {nin : Nat} {dv : Value} {lf lw : Option Value} {imm : List (Addr × Obj)} {sh inn : List (Int × Int)} (hst : st = (lawB.drop 16).take 1) (hcs : cs = lawS) (hd : dp ≤ 310) (hu : un ≤ 1000) (hb : Below A₀ base outer h₀) (X : (Mine.K0 w.params).In h₀) (T : Top Mine.Vw (looseW Mine.Vw [Str.ofString "Rectangle"]) mean mg mb h₀) (F : Fr h₀ L s.heap (fun q => if q = Str.ofString "due" then some dv else if q = Str.ofString "left" then lf else if q = Str.ofString "low" then lw else if q = Str.ofString "inner" then some (.ref lin) else if q = Str.ofString "shared" then some (.ref lsh) else if q = Str.ofString "mine" then some (.ref lm) else if q = Str.ofString "two" then some (.ref two) else if q = Str.ofString "one" then some (.ref one) else if q = Str.ofString "rows" then some (.ref lr) else if q = Str.ofString "columns" then some (.ref lc) else if q = Str.ofString "d" then some (.int d td) else if q = Str.ofString "b" then some (.int b tb) else if q = Str.ofString "c" then some (.int c tc) else if q = Str.ofString "a" then some (.int a ta) else if q = Str.ofString "h" then some (.int ht th) else if q = Str.ofString "y" then some (.int y ty) else if q = Str.ofString "w" then some (.int wd tw) else if q = Str.ofString "x" then some (.int x tx) else if q = Str.ofString "script" then some (.ref l) else m0 q)) (N : News h₀ L s.heap ((lin, oin) :: (lsh, osh) :: (lm, om) :: (lo, oo) :: (one, instObj 203 done) :: (done, rd w.params ka kb kc kd ke x y wd ht tx ty tw th) :: (two, instObj 203 dtwo) :: (dtwo, rd w.params ja jb jc jd je a b c d ta tb tc td) :: (lc, listOf cvs.toArray nc) :: (lr, listOf rvs.toArray nr) :: (c0, oc) :: imm)) (c1 : om.cls = .type "list") (d1 : om.data = .seq mvs nm) (c2 : oo.cls = .type "list") (d2 : oo.data = .seq ovs no) (c3 : osh.cls = .type "list") (e3 : osh.data = .seq svs nsh) (c4 : oin.cls = .type "list") (e4 : oin.data = .seq ivs nin) (d3 : oc.data = .cell (some (.ref lo))) (PS : Paired (PtS h₀ imm) svs.toList sh) (PI : Paired (PtS h₀ imm) ivs.toList inn) (s1 : mvs.size ≤ 81) (s2 : ovs.size ≤ 81) (s3 : svs.size ≤ 81) (z1 : 0 ≤ wd) (z2 : 0 ≤ ht) (z3 : 0 ≤ c) (z4 : 0 ≤ d)
    (k1 : ¬ (y < b + d ∧ b < y + ht ∧ x < a + c ∧ a < x + wd)) (k0 : inn = []) (k3 : decide (b < y + ht ∧ y < b + d ∧ a < x + wd ∧ x < a + c) = false)
    (p1 : 0 < wd) (p2 : 0 < ht) (p3 : 0 < c) (p4 : 0 < d)
    (hk : ∀ (h' : Heap) (tk' : Nat), Fr h₀ L h' (fun q => if q = Str.ofString "due" then some dv else if q = Str.ofString "left" then lf else if q = Str.ofString "low" then lw else if q = Str.ofString "inner" then some (.ref lin) else if q = Str.ofString "shared" then some (.ref lsh) else if q = Str.ofString "mine" then some (.ref lm) else if q = Str.ofString "two" then some (.ref two) else if q = Str.ofString "one" then some (.ref one) else if q = Str.ofString "rows" then some (.ref lr) else if q = Str.ofString "columns" then some (.ref lc) else if q = Str.ofString "d" then some (.int d td) else if q = Str.ofString "b" then some (.int b tb) else if q = Str.ofString "c" then some (.int c tc) else if q = Str.ofString "a" then some (.int a ta) else if q = Str.ofString "h" then some (.int ht th) else if q = Str.ofString "y" then some (.int y ty) else if q = Str.ofString "w" then some (.int wd tw) else if q = Str.ofString "x" then some (.int x tx) else if q = Str.ofString "script" then some (.ref l) else m0 q) → News h₀ L h' ((lin, oin) :: (lsh, osh) :: (lm, om) :: (lo, oo) :: (one, instObj 203 done) :: (done, rd w.params ka kb kc kd ke x y wd ht tx ty tw th) :: (two, instObj 203 dtwo) :: (dtwo, rd w.params ja jb jc jd je a b c d ta tb tc td) :: (lc, listOf cvs.toArray nc) :: (lr, listOf rvs.toArray nr) :: (c0, oc) :: imm) → Q .next { s with heap := h', toks := tk' }) : wpAny (model PySem.Challenge.rw_jb0029_01.row.prog w) (ktrTop dp un gd cn cs L aa ccd [(Str.ofString "other", c0)] outer) (execs st (envX cn cs L aa ccd [(Str.ofString "other", c0)])) Q E s := by
  have hst2 : st = [_] := hst
  have hcs2 : cs = Scope.mk _ _ _ _ _ := hcs
  subst hst2 hcs2
  clear hst hcs
  have hq : decide (inn ≠ []) = false := by simp [k0]
  have k2 : decide (y < b + d ∧ b < y + ht ∧ x < a + c ∧ a < x + wd) = false := decide_eq_false k1
  have p1' := ne_same (k2.trans hq.symm)
  have p2' := ne_same (k3.trans hq.symm)
  refine cps ?_
  intro qz hqz
  k_steps
  all_goals first | ((try dsimp only); exact hqz _ _ (hk _ _ (by k_asm) (by walk_at "m_news"))) | (exfalso; rename_i a1; rw [k2, hq] at a1; exact absurd a1 (by decide)) | (exfalso; rename_i a1; rw [k3, hq] at a1; exact absurd a1 (by decide)) | (exfalso; rename_i a1; simp at a1; done) | skip
set_option maxHeartbeats 400000 in
theorem chunkE16b {x wd y ht a c b d : Int} {tx tw ty th ta tc tb td : Tok} {lc lr one done two dtwo : Addr} {cvs rvs : List Value} {nc nr : Nat} {cols rows : List Int} {ka kb kc kd ke ja jb jc jd je : Tok} {lm lo : Addr} {om oo oc : Obj} {mvs ovs : Array Value} {nm no : Nat} {lsh : Addr} {osh : Obj} {svs : Array Value} {nsh : Nat} {lin : Addr} {oin : Obj} {ivs : Array Value} {nin : Nat} {dv : Value} {lf lw : Option Value} {imm : List (Addr × Obj)} {sh inn : List (Int × Int)} {TD : Addr} {g1 g2 g3 g4 : Tok} {ng : Nat} (hst : st = (lawB.drop 16).take 1) (hcs : cs = lawS) (hd : dp ≤ 310) (hu : un ≤ 1000) (hb : Below A₀ base outer h₀) (X : (Mine.K0 w.params).In h₀) (T : Top Mine.Vw (looseW Mine.Vw [Str.ofString "Rectangle"]) mean mg mb h₀) (F : Fr h₀ L s.heap (fun q => if q = Str.ofString "due" then some dv else if q = Str.ofString "left" then lf else if q = Str.ofString "low" then lw else if q = Str.ofString "inner" then some (.ref lin) else if q = Str.ofString "shared" then some (.ref lsh) else if q = Str.ofString "mine" then some (.ref lm) else if q = Str.ofString "two" then some (.ref two) else if q = Str.ofString "one" then some (.ref one) else if q = Str.ofString "rows" then some (.ref lr) else if q = Str.ofString "columns" then some (.ref lc) else if q = Str.ofString "d" then some (.int d td) else if q = Str.ofString "b" then some (.int b tb) else if q = Str.ofString "c" then some (.int c tc) else if q = Str.ofString "a" then some (.int a ta) else if q = Str.ofString "h" then some (.int ht th) else if q = Str.ofString "y" then some (.int y ty) else if q = Str.ofString "w" then some (.int wd tw) else if q = Str.ofString "x" then some (.int x tx) else if q = Str.ofString "script" then some (.ref l) else m0 q)) (N : News h₀ L s.heap ((lin, oin) :: (lsh, osh) :: (lm, om) :: (lo, oo) :: (one, instObj 203 done) :: (done, rd w.params ka kb kc kd ke x y wd ht tx ty tw th) :: (two, instObj 203 dtwo) :: (dtwo, rd w.params ja jb jc jd je a b c d ta tb tc td) :: (lc, listOf cvs.toArray nc) :: (lr, listOf rvs.toArray nr) :: (c0, oc) :: imm)) (c1 : om.cls = .type "list") (d1 : om.data = .seq mvs nm) (c2 : oo.cls = .type "list") (d2 : oo.data = .seq ovs no) (c3 : osh.cls = .type "list") (e3 : osh.data = .seq svs nsh) (c4 : oin.cls = .type "list") (e4 : oin.data = .seq ivs nin) (d3 : oc.data = .cell (some (.ref lo))) (PS : Paired (PtS h₀ imm) svs.toList sh) (PI : Paired (PtS h₀ imm) ivs.toList inn) (s1 : mvs.size ≤ 81) (s2 : ovs.size ≤ 81) (s3 : svs.size ≤ 81) (z1 : 0 ≤ wd) (z2 : 0 ≤ ht) (z3 : 0 ≤ c) (z4 : 0 ≤ d)
    (k1 : y < b + d ∧ b < y + ht ∧ x < a + c ∧ a < x + wd) (k0 : inn ≠ []) (k3 : decide (b < y + ht ∧ y < b + d ∧ a < x + wd ∧ x < a + c) = true) (kdv : dv = .ref TD) (hT : (TD, ({ cls := .type "tuple", data := .seq [.int (max x a) g1, .int (max y b) g2, .int (min (x + wd) (a + c) - max x a) g3, .int (min (y + ht) (b + d) - max y b) g4].toArray ng } : Obj)) ∈ imm)
    (p1 : 0 < wd) (p2 : 0 < ht) (p3 : 0 < c) (p4 : 0 < d)
    (hk : ∀ (h' : Heap) (tk' : Nat), Fr h₀ L h' (fun q => if q = Str.ofString "due" then some dv else if q = Str.ofString "left" then lf else if q = Str.ofString "low" then lw else if q = Str.ofString "inner" then some (.ref lin) else if q = Str.ofString "shared" then some (.ref lsh) else if q = Str.ofString "mine" then some (.ref lm) else if q = Str.ofString "two" then some (.ref two) else if q = Str.ofString "one" then some (.ref one) else if q = Str.ofString "rows" then some (.ref lr) else if q = Str.ofString "columns" then some (.ref lc) else if q = Str.ofString "d" then some (.int d td) else if q = Str.ofString "b" then some (.int b tb) else if q = Str.ofString "c" then some (.int c tc) else if q = Str.ofString "a" then some (.int a ta) else if q = Str.ofString "h" then some (.int ht th) else if q = Str.ofString "y" then some (.int y ty) else if q = Str.ofString "w" then some (.int wd tw) else if q = Str.ofString "x" then some (.int x tx) else if q = Str.ofString "script" then some (.ref l) else m0 q) → News h₀ L h' ((lin, oin) :: (lsh, osh) :: (lm, om) :: (lo, oo) :: (one, instObj 203 done) :: (done, rd w.params ka kb kc kd ke x y wd ht tx ty tw th) :: (two, instObj 203 dtwo) :: (dtwo, rd w.params ja jb jc jd je a b c d ta tb tc td) :: (lc, listOf cvs.toArray nc) :: (lr, listOf rvs.toArray nr) :: (c0, oc) :: imm) → Q .next { s with heap := h', toks := tk' }) : wpAny (model PySem.Challenge.rw_jb0029_01.row.prog w) (ktrTop dp un gd cn cs L aa ccd [(Str.ofString "other", c0)] outer) (execs st (envX cn cs L aa ccd [(Str.ofString "other", c0)])) Q E s := by
  have hst2 : st = [_] := hst
  have hcs2 : cs = Scope.mk _ _ _ _ _ := hcs
  subst hst2 hcs2
  subst kdv
  clear hst hcs
  have hq : decide (inn ≠ []) = true := by simp [k0]
  have k2 : decide (y < b + d ∧ b < y + ht ∧ x < a + c ∧ a < x + wd) = true := decide_eq_true k1
  have p1' := ne_same (k2.trans hq.symm)
  have p2' := ne_same (k3.trans hq.symm)
  refine cps ?_
  intro qz hqz
  k_steps
  all_goals first | ((try dsimp only); exact hqz _ _ (hk _ _ (by k_asm) (by walk_at "m_news"))) | (exfalso; rename_i a1; rw [k2, hq] at a1; exact absurd a1 (by decide)) | (exfalso; rename_i a1; rw [k3, hq] at a1; exact absurd a1 (by decide)) | (exfalso; rename_i a1; simp at a1; done) | skip
end
end

-- P18
theorem rs20 {M : Model} {A : Around} {env : Env} {E : Value → Shared → Prop} {Q : Flow → Shared → Prop} {s : Shared} (h : wpAny M A (execs [] env) Q E s) : wpAny M A (execs [] env) Q E s := by
  w_top off
  first | (walk1; done) | exact h

section
section
variable {w : World} {dp un : Nat} {gd : Option (List Code)} {cn : Str} {cs : Scope} {L aa c0 l : Addr} {ccd : Value} {outer : List Env} {A₀ : Around} {base h₀ : Heap} {m0 : Str → Option Value} {mean : ExcName → Option Value} {mg mb : Str → Option Value} {s : Shared} {E : Value → Shared → Prop} {st : List Stmt} {Q : Flow → Shared → Prop}
set_option maxHeartbeats 600000 in
theorem chunkF17 {x wd y ht a c b d : Int} {tx tw ty th ta tc tb td : Tok} {lc lr one done two dtwo : Addr} {cvs rvs : List Value} {nc nr : Nat} {cols rows : List Int} {ka kb kc kd ke ja jb jc jd je : Tok} {lm lo : Addr} {om oo oc : Obj} {mvs ovs : Array Value} {nm no : Nat} {lsh : Addr} {osh : Obj} {svs : Array Value} {nsh : Nat} {lin : Addr} {oin : Obj} {ivs : Array Value} {nin : Nat} {dv : Value} {lf lw : Option Value} {imm : List (Addr × Obj)} {sh inn : List (Int × Int)} (hst : st = (lawB.drop 17).take 1) (hcs : cs = lawS) (hd : dp ≤ 310) (hu : un ≤ 1000) (hb : Below A₀ base outer h₀) (X : (Mine.K0 w.params).In h₀) (T : Top Mine.Vw (looseW Mine.Vw [Str.ofString "Rectangle"]) mean mg mb h₀) (F : Fr h₀ L s.heap (fun q => if q = Str.ofString "due" then some dv else if q = Str.ofString "left" then lf else if q = Str.ofString "low" then lw else if q = Str.ofString "inner" then some (.ref lin) else if q = Str.ofString "shared" then some (.ref lsh) else if q = Str.ofString "mine" then some (.ref lm) else if q = Str.ofString "two" then some (.ref two) else if q = Str.ofString "one" then some (.ref one) else if q = Str.ofString "rows" then some (.ref lr) else if q = Str.ofString "columns" then some (.ref lc) else if q = Str.ofString "d" then some (.int d td) else if q = Str.ofString "b" then some (.int b tb) else if q = Str.ofString "c" then some (.int c tc) else if q = Str.ofString "a" then some (.int a ta) else if q = Str.ofString "h" then some (.int ht th) else if q = Str.ofString "y" then some (.int y ty) else if q = Str.ofString "w" then some (.int wd tw) else if q = Str.ofString "x" then some (.int x tx) else if q = Str.ofString "script" then some (.ref l) else m0 q)) (N : News h₀ L s.heap ((lin, oin) :: (lsh, osh) :: (lm, om) :: (lo, oo) :: (one, instObj 203 done) :: (done, rd w.params ka kb kc kd ke x y wd ht tx ty tw th) :: (two, instObj 203 dtwo) :: (dtwo, rd w.params ja jb jc jd je a b c d ta tb tc td) :: (lc, listOf cvs.toArray nc) :: (lr, listOf rvs.toArray nr) :: (c0, oc) :: imm)) (c1 : om.cls = .type "list") (d1 : om.data = .seq mvs nm) (c2 : oo.cls = .type "list") (d2 : oo.data = .seq ovs no) (c3 : osh.cls = .type "list") (e3 : osh.data = .seq svs nsh) (c4 : oin.cls = .type "list") (e4 : oin.data = .seq ivs nin) (d3 : oc.data = .cell (some (.ref lo))) (PS : Paired (PtS h₀ imm) svs.toList sh) (PI : Paired (PtS h₀ imm) ivs.toList inn) (s1 : mvs.size ≤ 81) (s2 : ovs.size ≤ 81) (s3 : svs.size ≤ 81) (z1 : 0 ≤ wd) (z2 : 0 ≤ ht) (z3 : 0 ≤ c) (z4 : 0 ≤ d)
    (hm : IntMulOk wd ht) (hm2 : IntMulOk c d)
    (hk : ∀ (h' : Heap) (tk' : Nat), Fr h₀ L h' (fun q => if q = Str.ofString "due" then some dv else if q = Str.ofString "left" then lf else if q = Str.ofString "low" then lw else if q = Str.ofString "inner" then some (.ref lin) else if q = Str.ofString "shared" then some (.ref lsh) else if q = Str.ofString "mine" then some (.ref lm) else if q = Str.ofString "two" then some (.ref two) else if q = Str.ofString "one" then some (.ref one) else if q = Str.ofString "rows" then some (.ref lr) else if q = Str.ofString "columns" then some (.ref lc) else if q = Str.ofString "d" then some (.int d td) else if q = Str.ofString "b" then some (.int b tb) else if q = Str.ofString "c" then some (.int c tc) else if q = Str.ofString "a" then some (.int a ta) else if q = Str.ofString "h" then some (.int ht th) else if q = Str.ofString "y" then some (.int y ty) else if q = Str.ofString "w" then some (.int wd tw) else if q = Str.ofString "x" then some (.int x tx) else if q = Str.ofString "script" then some (.ref l) else m0 q) → News h₀ L h' ((lin, oin) :: (lsh, osh) :: (lm, om) :: (lo, oo) :: (one, instObj 203 done) :: (done, rd w.params ka kb kc kd ke x y wd ht tx ty tw th) :: (two, instObj 203 dtwo) :: (dtwo, rd w.params ja jb jc jd je a b c d ta tb tc td) :: (lc, listOf cvs.toArray nc) :: (lr, listOf rvs.toArray nr) :: (c0, oc) :: imm) → Q .next { s with heap := h', toks := tk' }) : wpAny (model PySem.Challenge.rw_jb0029_01.row.prog w) (ktrTop dp un gd cn cs L aa ccd [(Str.ofString "other", c0)] outer) (execs st (envX cn cs L aa ccd [(Str.ofString "other", c0)])) Q E s := by
  have hst2 : st = [_] := hst
  have hcs2 : cs = Scope.mk _ _ _ _ _ := hcs
  subst hst2 hcs2
  clear hst hcs
  refine cps ?_
  intro qz hqz
  k_steps
  all_goals first | ((try dsimp only); exact hqz _ _ (hk _ _ (by k_asm) (by walk_at "m_news"))) | (exfalso; rename_i a1; rw [eq_perm] at a1; simp at a1; done) | (exfalso; rename_i a1; simp at a1; done) | skip
end
end

-- P19
section
theorem ne_pts {prog : Program} {w : World} {A : Around} {E : Value → Shared → Prop} {s : Shared} {h₀ : Heap} {L l1 l2 : Addr} {m : Str → Option Value} {o1 o2 : Obj} {news i1 i2 : List (Addr × Obj)} {x1 x2 : Array Value} {n1 n2 : Nat} {ps1 ps2 : List (Int × Int)} {Q : Value → Shared → Prop} (F : Fr h₀ L s.heap m) (N : News h₀ L s.heap news)
    (hm1 : (l1, o1) ∈ news) (hc1 : o1.cls = .type "list") (hd1 : o1.data = .seq x1 n1) (P1 : Paired (PtS h₀ i1) x1.toList ps1) (hs1 : ∀ q ∈ i1, q ∈ news)
    (hm2 : (l2, o2) ∈ news) (hc2 : o2.cls = .type "list") (hd2 : o2.data = .seq x2 n2) (P2 : Paired (PtS h₀ i2) x2.toList ps2) (hs2 : ∀ q ∈ i2, q ∈ news)
    (hu : A.units + 64 < cLine) (h : Q (.bool (decide (ps1 ≠ ps2))) s) : wpAny (model prog w) A (compareOp .NotEq (.ref l1) (.ref l2)) Q E s := by
  refine ne_rd (rd_list F N hm1 hc1 hd1 P1 hs1) (rd_list F N hm2 hc2 hd2 P2 hs2) (shaped_pts _) (shaped_pts _) hu ?_
  rw [eqv_pts]
  have e : (!decide (ps1 = ps2)) = decide (ps1 ≠ ps2) := by simp
  rw [e]
  exact h
end

-- P20
local macro_rules | `(tactic| walk_at "eval ListComp") => `(tactic| (k_here; (with_reducible show wpAny _ _ (eval (Expr.ListComp (Expr.Tuple [Expr.Attribute _ _ _, _] _ _) [_] _ _) _) _ _ _); k_dflt (refine' comp_iter ?hd ?hu ?B ?hck ?X ?T ?F ?hm ?hkd ?hnd ?N ?hr ?hdr ?hG ?hclos ?hsk ?hsc ?_; (case hd => walk_at "m_le"); (case hu => walk_at "m_le"); (case B => k_asm); (case hck => exact rfl); (case X => k_asm); (case T => k_asm); (case F => k_asm); (case hm => exact rfl); (case hkd => exact rfl); (case hnd => decide); (case N => k_asm); (case hr => walk_at "m_mm"); (case hdr => walk_at "m_mm"); (case hG => with_reducible assumption); (case hclos => exact rfl); (case hsk => exact rfl); (case hsc => exact rfl)); intro D' oD' zs' n' h' tk' g' hG' F' N' hc' hd' hP'; k_dflt (obtain ⟨imm', Nw', hS', hI'⟩ := pts_ledger F' hP'); k_dflt (have N3' := newsApp N' Nw'); clear hP' Nw' N'; (try simp only [List.cons_append, List.nil_append] at N3'); (try dsimp only)))
local macro_rules | `(tactic| walk_at "call ref") => `(tactic| (k_here; (with_reducible show wpAny _ _ (call (Value.ref 247) [_, _, _, _]) _ _ _); k_dflt (refine' call_pur (round_c ?hd ?hu) ?B ?F ?X ?T ?hk ?N ?_; (walk_at "m_pur")); intro v' h' tk' hv' hK' F' N'; k_dflt (obtain ⟨l', ys', n', q', hn', e', hP'⟩ := hv'); subst q'; k_dflt (have N'' := News.add N' (by assumption) hn' e'); k_dflt (obtain ⟨imm', Nw', hS', hI'⟩ := pts_ledger F' hP'); k_dflt (have N3' := newsApp N'' Nw'); clear hP' Nw' N' N''; (try simp only [List.cons_append, List.nil_append] at N3'); (try dsimp only)))
local macro_rules | `(tactic| walk_at "m_eqd") => `(tactic| first | with_reducible assumption | exact rfl)
local macro_rules | `(tactic| walk_at "compareOp NotEq ref ref") => `(tactic| (k_here; (with_reducible show wpAny _ _ (compareOp CmpOp.NotEq (Value.ref _) (Value.ref _)) _ _ _); k_dflt (refine' ne_pts ?F ?N ?m1 ?c1 ?d1 ?P1 ?s1 ?m2 ?c2 ?d2 ?P2 ?s2 ?u ?_; (case F => k_asm); (case N => k_asm); (case m1 => walk_at "m_mm"); (case c1 => walk_at "m_eqd"); (case d1 => walk_at "m_eqd"); (case P1 => with_reducible assumption); (case s1 => walk_at "m_sub"); (case m2 => walk_at "m_mm"); (case c2 => walk_at "m_eqd"); (case d2 => walk_at "m_eqd"); (case P2 => with_reducible assumption); (case s2 => walk_at "m_sub"); (case u => walk_at "m_room"))))
theorem rs21 {M : Model} {A : Around} {env : Env} {E : Value → Shared → Prop} {Q : Flow → Shared → Prop} {s : Shared} (h : wpAny M A (execs [] env) Q E s) : wpAny M A (execs [] env) Q E s := by
  w_top off
  first | (walk1; done) | exact h

section
section
variable {w : World} {dp un : Nat} {gd : Option (List Code)} {cn : Str} {cs : Scope} {L aa c0 l : Addr} {ccd : Value} {outer : List Env} {A₀ : Around} {base h₀ : Heap} {m0 : Str → Option Value} {mean : ExcName → Option Value} {mg mb : Str → Option Value} {s : Shared} {E : Value → Shared → Prop} {st : List Stmt} {Q : Flow → Shared → Prop}
set_option maxHeartbeats 400000 in
theorem chunkG18 {x wd y ht a c b d : Int} {tx tw ty th ta tc tb td : Tok} {lc lr one done two dtwo : Addr} {cvs rvs : List Value} {nc nr : Nat} {cols rows : List Int} {ka kb kc kd ke ja jb jc jd je : Tok} {lm lo : Addr} {om oo oc : Obj} {mvs ovs : Array Value} {nm no : Nat} {lsh : Addr} {osh : Obj} {svs : Array Value} {nsh : Nat} {lin : Addr} {oin : Obj} {ivs : Array Value} {nin : Nat} {dv : Value} {lf lw : Option Value} {imm : List (Addr × Obj)} {sh inn : List (Int × Int)} (hst : st = (lawB.drop 18).take 1) (hcs : cs = lawS) (hd : dp ≤ 310) (hu : un ≤ 1000) (hb : Below A₀ base outer h₀) (X : (Mine.K0 w.params).In h₀) (T : Top Mine.Vw (looseW Mine.Vw [Str.ofString "Rectangle"]) mean mg mb h₀) (F : Fr h₀ L s.heap (fun q => if q = Str.ofString "due" then some dv else if q = Str.ofString "left" then lf else if q = Str.ofString "low" then lw else if q = Str.ofString "inner" then some (.ref lin) else if q = Str.ofString "shared" then some (.ref lsh) else if q = Str.ofString "mine" then some (.ref lm) else if q = Str.ofString "two" then some (.ref two) else if q = Str.ofString "one" then some (.ref one) else if q = Str.ofString "rows" then some (.ref lr) else if q = Str.ofString "columns" then some (.ref lc) else if q = Str.ofString "d" then some (.int d td) else if q = Str.ofString "b" then some (.int b tb) else if q = Str.ofString "c" then some (.int c tc) else if q = Str.ofString "a" then some (.int a ta) else if q = Str.ofString "h" then some (.int ht th) else if q = Str.ofString "y" then some (.int y ty) else if q = Str.ofString "w" then some (.int wd tw) else if q = Str.ofString "x" then some (.int x tx) else if q = Str.ofString "script" then some (.ref l) else m0 q)) (N : News h₀ L s.heap ((lin, oin) :: (lsh, osh) :: (lm, om) :: (lo, oo) :: (one, instObj 203 done) :: (done, rd w.params ka kb kc kd ke x y wd ht tx ty tw th) :: (two, instObj 203 dtwo) :: (dtwo, rd w.params ja jb jc jd je a b c d ta tb tc td) :: (lc, listOf cvs.toArray nc) :: (lr, listOf rvs.toArray nr) :: (c0, oc) :: imm)) (c1 : om.cls = .type "list") (d1 : om.data = .seq mvs nm) (c2 : oo.cls = .type "list") (d2 : oo.data = .seq ovs no) (c3 : osh.cls = .type "list") (e3 : osh.data = .seq svs nsh) (c4 : oin.cls = .type "list") (e4 : oin.data = .seq ivs nin) (d3 : oc.data = .cell (some (.ref lo))) (PS : Paired (PtS h₀ imm) svs.toList sh) (PI : Paired (PtS h₀ imm) ivs.toList inn) (s1 : mvs.size ≤ 81) (s2 : ovs.size ≤ 81) (s3 : svs.size ≤ 81) (z1 : 0 ≤ wd) (z2 : 0 ≤ ht) (z3 : 0 ≤ c) (z4 : 0 ≤ d) (hG : AllBare s.gens)
    (hk : ∀ (h' : Heap) (tk' : Nat) (g' : Array GenState), AllBare g' → Fr h₀ L h' (fun q => if q = Str.ofString "due" then some dv else if q = Str.ofString "left" then lf else if q = Str.ofString "low" then lw else if q = Str.ofString "inner" then some (.ref lin) else if q = Str.ofString "shared" then some (.ref lsh) else if q = Str.ofString "mine" then some (.ref lm) else if q = Str.ofString "two" then some (.ref two) else if q = Str.ofString "one" then some (.ref one) else if q = Str.ofString "rows" then some (.ref lr) else if q = Str.ofString "columns" then some (.ref lc) else if q = Str.ofString "d" then some (.int d td) else if q = Str.ofString "b" then some (.int b tb) else if q = Str.ofString "c" then some (.int c tc) else if q = Str.ofString "a" then some (.int a ta) else if q = Str.ofString "h" then some (.int ht th) else if q = Str.ofString "y" then some (.int y ty) else if q = Str.ofString "w" then some (.int wd tw) else if q = Str.ofString "x" then some (.int x tx) else if q = Str.ofString "script" then some (.ref l) else m0 q) → News h₀ L h' ((lin, oin) :: (lsh, osh) :: (lm, om) :: (lo, oo) :: (one, instObj 203 done) :: (done, rd w.params ka kb kc kd ke x y wd ht tx ty tw th) :: (two, instObj 203 dtwo) :: (dtwo, rd w.params ja jb jc jd je a b c d ta tb tc td) :: (lc, listOf cvs.toArray nc) :: (lr, listOf rvs.toArray nr) :: (c0, oc) :: imm) → Q .next { s with heap := h', toks := tk', gens := g' }) : wpAny (model PySem.Challenge.rw_jb0029_01.row.prog w) (ktrTop dp un gd cn cs L aa ccd [(Str.ofString "other", c0)] outer) (execs st (envX cn cs L aa ccd [(Str.ofString "other", c0)])) Q E s := by
  have hst2 : st = [_] := hst
  have hcs2 : cs = Scope.mk _ _ _ _ _ := hcs
  subst hst2 hcs2
  clear hst hcs
  refine cps ?_
  intro qz hqz
  k_steps
  all_goals first | ((try dsimp only); exact hqz _ _ (hk _ _ _ (by with_reducible assumption) (by k_asm) (by walk_at "m_news"))) | (exfalso; rename_i a1; simp at a1; done) | skip
end
end

-- P21
theorem rs22 {M : Model} {A : Around} {env : Env} {E : Value → Shared → Prop} {Q : Flow → Shared → Prop} {s : Shared} (h : wpAny M A (execs [] env) Q E s) : wpAny M A (execs [] env) Q E s := by
  w_top off
  first | (walk1; done) | exact h

section
section
variable {w : World} {dp un : Nat} {gd : Option (List Code)} {cn : Str} {cs : Scope} {L aa c0 l : Addr} {ccd : Value} {outer : List Env} {A₀ : Around} {base h₀ : Heap} {m0 : Str → Option Value} {mean : ExcName → Option Value} {mg mb : Str → Option Value} {s : Shared} {E : Value → Shared → Prop} {st : List Stmt} {Q : Flow → Shared → Prop}
set_option maxHeartbeats 400000 in
theorem chunkH19 {x wd y ht a c b d : Int} {tx tw ty th ta tc tb td : Tok} {lc lr one done two dtwo : Addr} {cvs rvs : List Value} {nc nr : Nat} {cols rows : List Int} {ka kb kc kd ke ja jb jc jd je : Tok} {lm lo : Addr} {om oo oc : Obj} {mvs ovs : Array Value} {nm no : Nat} {lsh : Addr} {osh : Obj} {svs : Array Value} {nsh : Nat} {lin : Addr} {oin : Obj} {ivs : Array Value} {nin : Nat} {dv : Value} {lf lw : Option Value} {imm : List (Addr × Obj)} {sh inn : List (Int × Int)} (hst : st = (lawB.drop 19).take 1) (hcs : cs = lawS) (hd : dp ≤ 310) (hu : un ≤ 1000) (hb : Below A₀ base outer h₀) (X : (Mine.K0 w.params).In h₀) (T : Top Mine.Vw (looseW Mine.Vw [Str.ofString "Rectangle"]) mean mg mb h₀) (F : Fr h₀ L s.heap (fun q => if q = Str.ofString "due" then some dv else if q = Str.ofString "left" then lf else if q = Str.ofString "low" then lw else if q = Str.ofString "inner" then some (.ref lin) else if q = Str.ofString "shared" then some (.ref lsh) else if q = Str.ofString "mine" then some (.ref lm) else if q = Str.ofString "two" then some (.ref two) else if q = Str.ofString "one" then some (.ref one) else if q = Str.ofString "rows" then some (.ref lr) else if q = Str.ofString "columns" then some (.ref lc) else if q = Str.ofString "d" then some (.int d td) else if q = Str.ofString "b" then some (.int b tb) else if q = Str.ofString "c" then some (.int c tc) else if q = Str.ofString "a" then some (.int a ta) else if q = Str.ofString "h" then some (.int ht th) else if q = Str.ofString "y" then some (.int y ty) else if q = Str.ofString "w" then some (.int wd tw) else if q = Str.ofString "x" then some (.int x tx) else if q = Str.ofString "script" then some (.ref l) else m0 q)) (N : News h₀ L s.heap ((lin, oin) :: (lsh, osh) :: (lm, om) :: (lo, oo) :: (one, instObj 203 done) :: (done, rd w.params ka kb kc kd ke x y wd ht tx ty tw th) :: (two, instObj 203 dtwo) :: (dtwo, rd w.params ja jb jc jd je a b c d ta tb tc td) :: (lc, listOf cvs.toArray nc) :: (lr, listOf rvs.toArray nr) :: (c0, oc) :: imm)) (c1 : om.cls = .type "list") (d1 : om.data = .seq mvs nm) (c2 : oo.cls = .type "list") (d2 : oo.data = .seq ovs no) (c3 : osh.cls = .type "list") (e3 : osh.data = .seq svs nsh) (c4 : oin.cls = .type "list") (e4 : oin.data = .seq ivs nin) (d3 : oc.data = .cell (some (.ref lo))) (PS : Paired (PtS h₀ imm) svs.toList sh) (PI : Paired (PtS h₀ imm) ivs.toList inn) (s1 : mvs.size ≤ 81) (s2 : ovs.size ≤ 81) (s3 : svs.size ≤ 81) (z1 : 0 ≤ wd) (z2 : 0 ≤ ht) (z3 : 0 ≤ c) (z4 : 0 ≤ d)
    (s5 : cvs.toArray.size ≤ 81) (s6 : rvs.toArray.size ≤ 81) (hm3 : IntMulOk 2 (cvs.toArray.size : Int)) (hm4 : IntMulOk 2 (rvs.toArray.size : Int)) (hm5 : IntMulOk (2 * (cvs.toArray.size : Int) - 1) (2 * (rvs.toArray.size : Int) - 1))
    (hk : ∀ (wh : Bool) (h' : Heap) (tk' : Nat), wh = (((mvs.size : Int) + (ovs.size : Int) - (svs.size : Int)) == (2 * (cvs.toArray.size : Int) - 1) * (2 * (rvs.toArray.size : Int) - 1)) → Fr h₀ L h' (fun q => if q = Str.ofString "whole" then some (.bool wh) else if q = Str.ofString "due" then some dv else if q = Str.ofString "left" then lf else if q = Str.ofString "low" then lw else if q = Str.ofString "inner" then some (.ref lin) else if q = Str.ofString "shared" then some (.ref lsh) else if q = Str.ofString "mine" then some (.ref lm) else if q = Str.ofString "two" then some (.ref two) else if q = Str.ofString "one" then some (.ref one) else if q = Str.ofString "rows" then some (.ref lr) else if q = Str.ofString "columns" then some (.ref lc) else if q = Str.ofString "d" then some (.int d td) else if q = Str.ofString "b" then some (.int b tb) else if q = Str.ofString "c" then some (.int c tc) else if q = Str.ofString "a" then some (.int a ta) else if q = Str.ofString "h" then some (.int ht th) else if q = Str.ofString "y" then some (.int y ty) else if q = Str.ofString "w" then some (.int wd tw) else if q = Str.ofString "x" then some (.int x tx) else if q = Str.ofString "script" then some (.ref l) else m0 q) → News h₀ L h' ((lin, oin) :: (lsh, osh) :: (lm, om) :: (lo, oo) :: (one, instObj 203 done) :: (done, rd w.params ka kb kc kd ke x y wd ht tx ty tw th) :: (two, instObj 203 dtwo) :: (dtwo, rd w.params ja jb jc jd je a b c d ta tb tc td) :: (lc, listOf cvs.toArray nc) :: (lr, listOf rvs.toArray nr) :: (c0, oc) :: imm) → Q .next { s with heap := h', toks := tk' }) : wpAny (model PySem.Challenge.rw_jb0029_01.row.prog w) (ktrTop dp un gd cn cs L aa ccd [(Str.ofString "other", c0)] outer) (execs st (envX cn cs L aa ccd [(Str.ofString "other", c0)])) Q E s := by
  have hst2 : st = [_] := hst
  have hcs2 : cs = Scope.mk _ _ _ _ _ := hcs
  subst hst2 hcs2
  clear hst hcs
  refine cps ?_
  intro qz hqz
  k_steps
  all_goals first | ((try dsimp only); exact hqz _ _ (hk _ _ _ rfl (by k_asm) (by walk_at "m_news"))) | skip
end
end

-- P22a
theorem rs23 {M : Model} {A : Around} {env : Env} {E : Value → Shared → Prop} {Q : Flow → Shared → Prop} {s : Shared} (h : wpAny M A (execs [] env) Q E s) : wpAny M A (execs [] env) Q E s := by
  w_top off
  first | (walk1; done) | exact h

section
section
local macro_rules | `(tactic| walk_at "ite") => `(tactic| (k_here; (first | (refine' ite_pos (live_use ?lk ?le) ?_; walk_at "m_ll") | (refine' ite_pos (liveN_use ?lk ?le) ?_; walk_at "m_ll"))))
local macro_rules | `(tactic| walk_at "m_ll") => `(tactic| ((case lk => with_reducible assumption); (case le => with_reducible assumption)))
variable {w : World} {dp un : Nat} {gd : Option (List Code)} {cn : Str} {cs : Scope} {L aa c0 l : Addr} {ccd : Value} {outer : List Env} {A₀ : Around} {base h₀ : Heap} {m0 : Str → Option Value} {mean : ExcName → Option Value} {mg mb : Str → Option Value} {s : Shared} {E : Value → Shared → Prop} {st : List Stmt} {Q : Flow → Shared → Prop}
set_option maxHeartbeats 4000000 in
theorem join_t {x wd y ht a c b d : Int} {tx tw ty th ta tc tb td : Tok} {lc lr one done two dtwo : Addr} {cvs rvs : List Value} {nc nr : Nat} {ka kb kc kd ke ja jb jc jd je : Tok} {lm lo lsh lin : Addr} {om oo oc osh oin : Obj} {mvs ovs svs ivs : Array Value} {nm no nsh nin : Nat} {cl : List (Str × Addr)} {m : Str → Option Value} {Qv : Value → Shared → Prop} (hcs : cs = lawS) (hd : dp ≤ 310) (hu : un ≤ 1000) (hb : Below A₀ base outer h₀) (X : (Mine.K0 w.params).In h₀) (T : Top Mine.Vw (looseW Mine.Vw [Str.ofString "Rectangle"]) mean mg mb h₀) (F : Fr h₀ L s.heap m) (N : News h₀ L s.heap [(lin, oin), (lsh, osh), (lm, om), (lo, oo), (one, instObj 203 done), (done, rd w.params ka kb kc kd ke x y wd ht tx ty tw th), (two, instObj 203 dtwo), (dtwo, rd w.params ja jb jc jd je a b c d ta tb tc td), (lc, listOf cvs.toArray nc), (lr, listOf rvs.toArray nr), (c0, oc)]) (d3 : oc.data = .cell (some (.ref lo))) (d1 : om.data = .seq mvs nm) (d2 : oo.data = .seq ovs no) (e3 : osh.data = .seq svs nsh) (e4 : oin.data = .seq ivs nin) (z1 : 0 ≤ wd) (z2 : 0 ≤ ht) (z3 : 0 ≤ c) (z4 : 0 ≤ d) (hdd : done ≠ dtwo) (hdd' : dtwo ≠ done)
    (kj : (y ≤ b ∧ x ≤ a ∧ b + d ≤ y + ht ∧ a + c ≤ x + wd) ∨ (b ≤ y ∧ a ≤ x ∧ y + ht ≤ b + d ∧ x + wd ≤ a + c) ∨ ((y ≤ b + d ∧ b ≤ y + ht ∧ x ≤ a + c ∧ a ≤ x + wd) ∧ ((x = a ∧ wd = c) ∨ (y = b ∧ ht = d))))
    (hk : ∀ (x9 y9 w9 h9 : Int) (e1 e2 e5 e6 : Tok) (h' : Heap) (tk' : Nat), x9 = min x a → y9 = min y b → w9 = max (x + wd) (a + c) - min x a → h9 = max (y + ht) (b + d) - min y b → Fr h₀ L h' m → News h₀ L h' [(lin, oin), (lsh, osh), (lm, om), (lo, oo), (one, instObj 203 done), (done, rd w.params ka kb kc kd ke x9 y9 w9 h9 e1 e2 e5 e6), (two, instObj 203 dtwo), (dtwo, rd w.params ja jb jc jd je a b c d ta tb tc td), (lc, listOf cvs.toArray nc), (lr, listOf rvs.toArray nr), (c0, oc)] → Qv (.bool true) { s with heap := h', toks := tk' }) :
    wpAny (model PySem.Challenge.rw_jb0029_01.row.prog w) (ktrTop dp un gd cn cs L aa ccd cl outer) (call (.ref 200) [.ref one, .ref two]) Qv E s := by
  have hcs2 : cs = Scope.mk _ _ _ _ _ := hcs
  subst hcs2
  clear hcs
  by_cases kA : (y ≤ b ∧ x ≤ a ∧ b + d ≤ y + ht ∧ a + c ≤ x + wd)
  · have f1 := min_l kA.2.1
    have f2 := min_l kA.1
    have f3 := ext_l ⟨kA.2.1, kA.2.2.2⟩
    have f4 := ext_l ⟨kA.1, kA.2.2.1⟩
    have kA' := decide_eq_true kA
    clear kj kA
    refine cps ?_
    intro qz hqz
    k_steps
    all_goals ((try dsimp only); refine' hqz _ _ (hk _ _ _ _ _ _ _ _ _ _ ?_ ?_ ?_ ?_ ?_ ?_); (all_goals first | ((with_reducible show Fr _ _ _ _); k_asm) | skip); (all_goals first | ((with_reducible show News _ _ _ _); walk_at "m_news") | skip))
    all_goals (with_reducible assumption)
  by_cases kB : (b ≤ y ∧ a ≤ x ∧ y + ht ≤ b + d ∧ x + wd ≤ a + c)
  · have f1 := min_r kB.2.1
    have f2 := min_r kB.1
    have f3 := ext_r ⟨kB.2.1, kB.2.2.2⟩
    have f4 := ext_r ⟨kB.1, kB.2.2.1⟩
    have kA' := decide_eq_false kA
    have kB' := decide_eq_true kB
    clear kj kA kB
    refine cps ?_
    intro qz hqz
    k_steps
    all_goals ((try dsimp only); refine' hqz _ _ (hk _ _ _ _ _ _ _ _ _ _ ?_ ?_ ?_ ?_ ?_ ?_); (all_goals first | ((with_reducible show Fr _ _ _ _); k_asm) | skip); (all_goals first | ((with_reducible show News _ _ _ _); walk_at "m_news") | skip))
    all_goals (with_reducible assumption)
  obtain ⟨kI, k1, k2⟩ := join_cases z1 z2 z3 z4 kj kA kB
  have kA' := decide_eq_false kA
  have kB' := decide_eq_false kB
  have kI' := decide_eq_true kI
  have l1 : Live x a wd c := fun e => beq_iff_eq.mpr (k1 e)
  have l2 : LiveN x a y b := fun e => beq_iff_eq.mpr (k2 e).1
  have l3 : LiveN x a ht d := fun e => beq_iff_eq.mpr (k2 e).2
  clear kj kA kB kI
  refine cps ?_
  intro qz hqz
  k_steps
  all_goals ((try dsimp only); refine' hqz _ _ (hk _ _ _ _ _ _ _ _ _ _ ?_ ?_ ?_ ?_ ?_ ?_); (all_goals first | ((with_reducible show Fr _ _ _ _); k_asm) | skip); (all_goals first | ((with_reducible show News _ _ _ _); walk_at "m_news") | skip))
  all_goals (repeat (with_reducible rename (@LT.lt Nat _ _ _ ∧ _) => hz9; clear hz9))
  all_goals ((repeat' split) <;> omega)
end
end

-- P22b
theorem rs24 {M : Model} {A : Around} {env : Env} {E : Value → Shared → Prop} {Q : Flow → Shared → Prop} {s : Shared} (h : wpAny M A (execs [] env) Q E s) : wpAny M A (execs [] env) Q E s := by
  w_top off
  first | (walk1; done) | exact h

section
local macro_rules | `(tactic| walk_at "call ref") => `(tactic| (k_here; (with_reducible show wpAny _ _ (call (Value.ref 200) [Value.ref _, Value.ref _]) _ _ _); k_dflt (refine' join_t ?hcs ?hd ?hu ?B ?X ?T ?F ?N ?d3 ?d1 ?d2 ?e3 ?e4 ?z1 ?z2 ?z3 ?z4 ?hdd ?hdd2 ?kj ?_; (case hcs => with_reducible assumption); (case hd => walk_at "m_le"); (case hu => walk_at "m_le"); (case B => k_asm); (case X => k_asm); (case T => k_asm); (case F => k_asm); (case N => k_asm); (case d3 => with_reducible assumption); (case d1 => with_reducible assumption); (case d2 => with_reducible assumption); (case e3 => with_reducible assumption); (case e4 => with_reducible assumption); (case z1 => with_reducible assumption); (case z2 => with_reducible assumption); (case z3 => with_reducible assumption); (case z4 => with_reducible assumption); (case hdd => with_reducible assumption); (case hdd2 => with_reducible assumption); (case kj => with_reducible assumption)); intro x9' y9' w9' h9' e1' e2' e5' e6' h' tk' q1' q2' q3' q4' F' N'; (try dsimp only)))

section
variable {w : World} {dp un : Nat} {gd : Option (List Code)} {cn : Str} {cs : Scope} {L aa c0 l : Addr} {ccd : Value} {outer : List Env} {A₀ : Around} {base h₀ : Heap} {m0 : Str → Option Value} {mean : ExcName → Option Value} {mg mb : Str → Option Value} {s : Shared} {E : Value → Shared → Prop} {st : List Stmt} {Q : Flow → Shared → Prop}
set_option maxHeartbeats 4000000 in
theorem chunkI20t {x wd y ht a c b d : Int} {tx tw ty th ta tc tb td : Tok} {lc lr one done two dtwo : Addr} {cvs rvs : List Value} {nc nr : Nat} {cols rows : List Int} {ka kb kc kd ke ja jb jc jd je : Tok} {lm lo : Addr} {om oo oc : Obj} {mvs ovs : Array Value} {nm no : Nat} {lsh : Addr} {osh : Obj} {svs : Array Value} {nsh : Nat} {lin : Addr} {oin : Obj} {ivs : Array Value} {nin : Nat} {dv : Value} {lf lw : Option Value} {wh : Bool} (hst : st = (lawB.drop 20).take 1) (hcs : cs = lawS) (hd : dp ≤ 310) (hu : un ≤ 1000) (hb : Below A₀ base outer h₀) (X : (Mine.K0 w.params).In h₀) (T : Top Mine.Vw (looseW Mine.Vw [Str.ofString "Rectangle"]) mean mg mb h₀) (F : Fr h₀ L s.heap (fun q => if q = Str.ofString "whole" then some (.bool wh) else if q = Str.ofString "due" then some dv else if q = Str.ofString "left" then lf else if q = Str.ofString "low" then lw else if q = Str.ofString "inner" then some (.ref lin) else if q = Str.ofString "shared" then some (.ref lsh) else if q = Str.ofString "mine" then some (.ref lm) else if q = Str.ofString "two" then some (.ref two) else if q = Str.ofString "one" then some (.ref one) else if q = Str.ofString "rows" then some (.ref lr) else if q = Str.ofString "columns" then some (.ref lc) else if q = Str.ofString "d" then some (.int d td) else if q = Str.ofString "b" then some (.int b tb) else if q = Str.ofString "c" then some (.int c tc) else if q = Str.ofString "a" then some (.int a ta) else if q = Str.ofString "h" then some (.int ht th) else if q = Str.ofString "y" then some (.int y ty) else if q = Str.ofString "w" then some (.int wd tw) else if q = Str.ofString "x" then some (.int x tx) else if q = Str.ofString "script" then some (.ref l) else m0 q)) (N : News h₀ L s.heap [(lin, oin), (lsh, osh), (lm, om), (lo, oo), (one, instObj 203 done), (done, rd w.params ka kb kc kd ke x y wd ht tx ty tw th), (two, instObj 203 dtwo), (dtwo, rd w.params ja jb jc jd je a b c d ta tb tc td), (lc, listOf cvs.toArray nc), (lr, listOf rvs.toArray nr), (c0, oc)]) (c1 : om.cls = .type "list") (d1 : om.data = .seq mvs nm) (c2 : oo.cls = .type "list") (d2 : oo.data = .seq ovs no) (c3 : osh.cls = .type "list") (e3 : osh.data = .seq svs nsh) (c4 : oin.cls = .type "list") (e4 : oin.data = .seq ivs nin) (d3 : oc.data = .cell (some (.ref lo))) (s1 : mvs.size ≤ 81) (s2 : ovs.size ≤ 81) (s3 : svs.size ≤ 81) (z1 : 0 ≤ wd) (z2 : 0 ≤ ht) (z3 : 0 ≤ c) (z4 : 0 ≤ d) (hdd : done ≠ dtwo) (hdd' : dtwo ≠ done) (hw : wh = true)
    (kj : (y ≤ b ∧ x ≤ a ∧ b + d ≤ y + ht ∧ a + c ≤ x + wd) ∨ (b ≤ y ∧ a ≤ x ∧ y + ht ≤ b + d ∧ x + wd ≤ a + c) ∨ ((y ≤ b + d ∧ b ≤ y + ht ∧ x ≤ a + c ∧ a ≤ x + wd) ∧ ((x = a ∧ wd = c) ∨ (y = b ∧ ht = d))))
    (hG : AllBare s.gens)
    (hk : ∀ (x9 y9 w9 h9 : Int) (e1 e2 e5 e6 : Tok) (h' : Heap) (tk' : Nat) (g' : Array GenState), x9 = min x a → y9 = min y b → w9 = max (x + wd) (a + c) - min x a → h9 = max (y + ht) (b + d) - min y b → AllBare g' → Fr h₀ L h' (fun q => if q = Str.ofString "whole" then some (.bool wh) else if q = Str.ofString "due" then some dv else if q = Str.ofString "left" then lf else if q = Str.ofString "low" then lw else if q = Str.ofString "inner" then some (.ref lin) else if q = Str.ofString "shared" then some (.ref lsh) else if q = Str.ofString "mine" then some (.ref lm) else if q = Str.ofString "two" then some (.ref two) else if q = Str.ofString "one" then some (.ref one) else if q = Str.ofString "rows" then some (.ref lr) else if q = Str.ofString "columns" then some (.ref lc) else if q = Str.ofString "d" then some (.int d td) else if q = Str.ofString "b" then some (.int b tb) else if q = Str.ofString "c" then some (.int c tc) else if q = Str.ofString "a" then some (.int a ta) else if q = Str.ofString "h" then some (.int ht th) else if q = Str.ofString "y" then some (.int y ty) else if q = Str.ofString "w" then some (.int wd tw) else if q = Str.ofString "x" then some (.int x tx) else if q = Str.ofString "script" then some (.ref l) else m0 q) → News h₀ L h' [(lin, oin), (lsh, osh), (lm, om), (lo, oo), (one, instObj 203 done), (done, rd w.params ka kb kc kd ke x9 y9 w9 h9 e1 e2 e5 e6), (two, instObj 203 dtwo), (dtwo, rd w.params ja jb jc jd je a b c d ta tb tc td), (lc, listOf cvs.toArray nc), (lr, listOf rvs.toArray nr), (c0, oc)] → Q .next { s with heap := h', toks := tk', gens := g' }) : wpAny (model PySem.Challenge.rw_jb0029_01.row.prog w) (ktrTop dp un gd cn cs L aa ccd [(Str.ofString "other", c0)] outer) (execs st (envX cn cs L aa ccd [(Str.ofString "other", c0)])) Q E s := by
  have hst2 : st = [_] := hst
  have hcs2 : cs = Scope.mk _ _ _ _ _ := hcs
  have hcs3 := hcs
  subst hst2 hcs2
  subst hw
  clear hst hcs
  refine cps ?_
  intro qz hqz
  k_steps
  all_goals first
    | ((try dsimp only); exact hqz _ _ (hk _ _ _ _ _ _ _ _ _ _ _ (by with_reducible assumption) (by with_reducible assumption) (by with_reducible assumption) (by with_reducible assumption) (by with_reducible assumption) (by k_asm) (by walk_at "m_news")))
    | (exfalso; rename_i a1; exact absurd rfl a1)
    | (exfalso; rename_i a1; exact absurd (And.intro rfl (And.intro rfl (And.intro rfl rfl))) a1)
    | skip
end
end

-- P23
theorem rs25 {M : Model} {A : Around} {env : Env} {E : Value → Shared → Prop} {Q : Flow → Shared → Prop} {s : Shared} (h : wpAny M A (execs [] env) Q E s) : wpAny M A (execs [] env) Q E s := by
  w_top off
  first | (walk1; done) | exact h

section
local macro_rules | `(tactic| walk_at "ite") => `(tactic| (k_here; (refine' ite_isFalse (dead_use ?k ?e) ?_; (case k => with_reducible assumption); (case e => with_reducible assumption)); walk_say "DEAD"))
section
variable {w : World} {dp un : Nat} {s : Shared} {a da b db : Addr} {ta tb tc td te ua ub uc ud ue : Tok} {x y wd ht x2 y2 w2 h2 : Int} {tx ty tw th ux uy uw uh : Tok}
set_option maxHeartbeats 4000000 in
theorem join_f (hd : dp ≤ 400) (hu : un ≤ 4000)
    (ha : s.heap.get? a = some (instObj 203 da)) (hda : s.heap.get? da = some (rd w.params ta tb tc td te x y wd ht tx ty tw th))
    (hb : s.heap.get? b = some (instObj 203 db)) (hdb : s.heap.get? db = some (rd w.params ua ub uc ud ue x2 y2 w2 h2 ux uy uw uh))
    (kA : ¬ (y ≤ y2 ∧ x ≤ x2 ∧ y2 + h2 ≤ y + ht ∧ x2 + w2 ≤ x + wd)) (kB : ¬ (y2 ≤ y ∧ x2 ≤ x ∧ y + ht ≤ y2 + h2 ∧ x + wd ≤ x2 + w2))
    (kC : ¬ (y ≤ y2 + h2 ∧ y2 ≤ y + ht ∧ x ≤ x2 + w2 ∧ x2 ≤ x + wd) ∨ (¬ (x = x2 ∧ wd = w2) ∧ ¬ (y = y2 ∧ ht = h2))) :
    Pur w dp un 200 ⟨[.ref a, .ref b], []⟩ s (fun v _ => v = .bool false) := by
  intro mean mg mb gd cn cs aa ccd cl outer A₀ base h₀ L m R B F X T hk hret
  have kA' := decide_eq_false kA
  have kB' := decide_eq_false kB
  by_cases kI : (y ≤ y2 + h2 ∧ y2 ≤ y + ht ∧ x ≤ x2 + w2 ∧ x2 ≤ x + wd)
  · have kC2 : ¬ (x = x2 ∧ wd = w2) ∧ ¬ (y = y2 ∧ ht = h2) := by
      rcases kC with h | h
      · exact absurd kI h
      · exact h
    have kI' := decide_eq_true kI
    have kD1 := dead_of kC2.1
    have kD2 := dead_of kC2.2
    clear kC kA kB kI kC2
    walk_at "m_enter"
    k_steps
    all_goals (walk_at "m_end")
  · have kI' := decide_eq_false kI
    clear kC kA kB kI
    walk_at "m_enter"
    k_steps
    all_goals (walk_at "m_end")
end
end

-- P24
theorem rs26 {M : Model} {A : Around} {env : Env} {E : Value → Shared → Prop} {Q : Flow → Shared → Prop} {s : Shared} (h : wpAny M A (execs [] env) Q E s) : wpAny M A (execs [] env) Q E s := by
  w_top off
  first | (walk1; done) | exact h

section
theorem last_ix {n : Nat} (h : 0 < (n : Int)) : (-1 + (n : Int)).toNat = n - 1 := by omega
section
variable {m0 : Str → Option Value} {l : Addr}
theorem fr9 {x wd y ht a c b d : Int} {tx tw ty th ta tc tb td : Tok} {lc lr one two lm lsh lin : Addr} {dv : Value} {lf lw : Option Value} {wh : Bool} {x9 y9 w9 h9 : Int} {e1 e2 e5 e6 : Tok} : ∀ q, (if q = Str.ofString "h" then some (.int h9 e6) else if q = Str.ofString "w" then some (.int w9 e5) else if q = Str.ofString "y" then some (.int y9 e2) else if q = Str.ofString "x" then some (.int x9 e1) else (fun q => if q = Str.ofString "whole" then some (.bool wh) else if q = Str.ofString "due" then some dv else if q = Str.ofString "left" then lf else if q = Str.ofString "low" then lw else if q = Str.ofString "inner" then some (.ref lin) else if q = Str.ofString "shared" then some (.ref lsh) else if q = Str.ofString "mine" then some (.ref lm) else if q = Str.ofString "two" then some (.ref two) else if q = Str.ofString "one" then some (.ref one) else if q = Str.ofString "rows" then some (.ref lr) else if q = Str.ofString "columns" then some (.ref lc) else if q = Str.ofString "d" then some (.int d td) else if q = Str.ofString "b" then some (.int b tb) else if q = Str.ofString "c" then some (.int c tc) else if q = Str.ofString "a" then some (.int a ta) else if q = Str.ofString "h" then some (.int ht th) else if q = Str.ofString "y" then some (.int y ty) else if q = Str.ofString "w" then some (.int wd tw) else if q = Str.ofString "x" then some (.int x tx) else if q = Str.ofString "script" then some (.ref l) else m0 q) q) = (fun q => if q = Str.ofString "whole" then some (.bool wh) else if q = Str.ofString "due" then some dv else if q = Str.ofString "left" then lf else if q = Str.ofString "low" then lw else if q = Str.ofString "inner" then some (.ref lin) else if q = Str.ofString "shared" then some (.ref lsh) else if q = Str.ofString "mine" then some (.ref lm) else if q = Str.ofString "two" then some (.ref two) else if q = Str.ofString "one" then some (.ref one) else if q = Str.ofString "rows" then some (.ref lr) else if q = Str.ofString "columns" then some (.ref lc) else if q = Str.ofString "d" then some (.int d td) else if q = Str.ofString "b" then some (.int b tb) else if q = Str.ofString "c" then some (.int c tc) else if q = Str.ofString "a" then some (.int a ta) else if q = Str.ofString "h" then some (.int h9 e6) else if q = Str.ofString "y" then some (.int y9 e2) else if q = Str.ofString "w" then some (.int w9 e5) else if q = Str.ofString "x" then some (.int x9 e1) else if q = Str.ofString "script" then some (.ref l) else m0 q) q := by
  intro q
  by_cases h1 : q = Str.ofString "h"
  · subst h1; rfl
  by_cases h2 : q = Str.ofString "w"
  · subst h2; rfl
  by_cases h3 : q = Str.ofString "y"
  · subst h3; rfl
  by_cases h4 : q = Str.ofString "x"
  · subst h4; rfl
  simp only [h1, h2, h3, h4, if_false]
end

section
variable {w : World} {dp un : Nat} {gd : Option (List Code)} {cn : Str} {cs : Scope} {L aa c0 l : Addr} {ccd : Value} {outer : List Env} {A₀ : Around} {base h₀ : Heap} {m0 : Str → Option Value} {mean : ExcName → Option Value} {mg mb : Str → Option Value} {s : Shared} {E : Value → Shared → Prop} {st : List Stmt} {Q : Flow → Shared → Prop}
set_option maxHeartbeats 400000 in
theorem chunkJ21t {x wd y ht a c b d : Int} {tx tw ty th ta tc tb td : Tok} {lc lr one done two dtwo : Addr} {cvs rvs : List Value} {nc nr : Nat} {cols rows : List Int} {ka kb kc kd ke ja jb jc jd je : Tok} {lm lo : Addr} {om oo oc : Obj} {mvs ovs : Array Value} {nm no : Nat} {lsh : Addr} {osh : Obj} {svs : Array Value} {nsh : Nat} {lin : Addr} {oin : Obj} {ivs : Array Value} {nin : Nat} {dv : Value} {lf lw : Option Value} {wh : Bool} {x8 y8 w8 h8 : Int} {ux uy uw uh : Tok} (hst : st = (lawB.drop 21).take 1) (hcs : cs = lawS) (hd : dp ≤ 310) (hu : un ≤ 1000) (hb : Below A₀ base outer h₀) (X : (Mine.K0 w.params).In h₀) (T : Top Mine.Vw (looseW Mine.Vw [Str.ofString "Rectangle"]) mean mg mb h₀) (F : Fr h₀ L s.heap (fun q => if q = Str.ofString "whole" then some (.bool wh) else if q = Str.ofString "due" then some dv else if q = Str.ofString "left" then lf else if q = Str.ofString "low" then lw else if q = Str.ofString "inner" then some (.ref lin) else if q = Str.ofString "shared" then some (.ref lsh) else if q = Str.ofString "mine" then some (.ref lm) else if q = Str.ofString "two" then some (.ref two) else if q = Str.ofString "one" then some (.ref one) else if q = Str.ofString "rows" then some (.ref lr) else if q = Str.ofString "columns" then some (.ref lc) else if q = Str.ofString "d" then some (.int d td) else if q = Str.ofString "b" then some (.int b tb) else if q = Str.ofString "c" then some (.int c tc) else if q = Str.ofString "a" then some (.int a ta) else if q = Str.ofString "h" then some (.int ht th) else if q = Str.ofString "y" then some (.int y ty) else if q = Str.ofString "w" then some (.int wd tw) else if q = Str.ofString "x" then some (.int x tx) else if q = Str.ofString "script" then some (.ref l) else m0 q)) (N : News h₀ L s.heap [(lin, oin), (lsh, osh), (lm, om), (lo, oo), (one, instObj 203 done), (done, rd w.params ka kb kc kd ke x8 y8 w8 h8 ux uy uw uh), (two, instObj 203 dtwo), (dtwo, rd w.params ja jb jc jd je a b c d ta tb tc td), (lc, listOf cvs.toArray nc), (lr, listOf rvs.toArray nr), (c0, oc)]) (c1 : om.cls = .type "list") (d1 : om.data = .seq mvs nm) (c2 : oo.cls = .type "list") (d2 : oo.data = .seq ovs no) (c3 : osh.cls = .type "list") (e3 : osh.data = .seq svs nsh) (c4 : oin.cls = .type "list") (e4 : oin.data = .seq ivs nin) (d3 : oc.data = .cell (some (.ref lo))) (s1 : mvs.size ≤ 81) (s2 : ovs.size ≤ 81) (s3 : svs.size ≤ 81) (z1 : 0 ≤ wd) (z2 : 0 ≤ ht) (z3 : 0 ≤ c) (z4 : 0 ≤ d) (hw : wh = true) 
    (i1 : IntsAre cvs cols) (i2 : IntsAre rvs rows) (l1 : 0 < (cols.length : Int)) (l2 : 0 < (rows.length : Int)) 
    (hk : ∀ (x9 y9 w9 h9 : Int) (e1 e2 e5 e6 : Tok) (h' : Heap) (tk' : Nat), x9 = cols.getD 0 0 → y9 = rows.getD 0 0 → w9 = cols.getD (cols.length - 1) 0 - cols.getD 0 0 → h9 = rows.getD (rows.length - 1) 0 - rows.getD 0 0 → Fr h₀ L h' (fun q => if q = Str.ofString "whole" then some (.bool wh) else if q = Str.ofString "due" then some dv else if q = Str.ofString "left" then lf else if q = Str.ofString "low" then lw else if q = Str.ofString "inner" then some (.ref lin) else if q = Str.ofString "shared" then some (.ref lsh) else if q = Str.ofString "mine" then some (.ref lm) else if q = Str.ofString "two" then some (.ref two) else if q = Str.ofString "one" then some (.ref one) else if q = Str.ofString "rows" then some (.ref lr) else if q = Str.ofString "columns" then some (.ref lc) else if q = Str.ofString "d" then some (.int d td) else if q = Str.ofString "b" then some (.int b tb) else if q = Str.ofString "c" then some (.int c tc) else if q = Str.ofString "a" then some (.int a ta) else if q = Str.ofString "h" then some (.int h9 e6) else if q = Str.ofString "y" then some (.int y9 e2) else if q = Str.ofString "w" then some (.int w9 e5) else if q = Str.ofString "x" then some (.int x9 e1) else if q = Str.ofString "script" then some (.ref l) else m0 q) → News h₀ L h' [(lin, oin), (lsh, osh), (lm, om), (lo, oo), (one, instObj 203 done), (done, rd w.params ka kb kc kd ke x8 y8 w8 h8 ux uy uw uh), (two, instObj 203 dtwo), (dtwo, rd w.params ja jb jc jd je a b c d ta tb tc td), (lc, listOf cvs.toArray nc), (lr, listOf rvs.toArray nr), (c0, oc)] → Q .next { s with heap := h', toks := tk' }) : wpAny (model PySem.Challenge.rw_jb0029_01.row.prog w) (ktrTop dp un gd cn cs L aa ccd [(Str.ofString "other", c0)] outer) (execs st (envX cn cs L aa ccd [(Str.ofString "other", c0)])) Q E s := by
  have hst2 : st = [_] := hst
  have hcs2 : cs = Scope.mk _ _ _ _ _ := hcs
  subst hst2 hcs2
  subst hw
  clear hst hcs
  refine cps ?_
  intro qz hqz
  k_steps
  with_reducible rename Fr _ _ _ _ => F9
  with_reducible rename News _ _ _ _ => N9
  refine hqz _ _ (hk _ _ _ _ _ _ _ _ _ _ ?q1 ?q2 ?q3 ?q4 (Fr.eqm F9 fr9) (by walk_at "m_news"))
  all_goals first | rfl | (rw [last_ix l1]; rfl) | (rw [last_ix l2]; rfl)

set_option maxHeartbeats 400000 in
theorem chunkJ21f {x wd y ht a c b d : Int} {tx tw ty th ta tc tb td : Tok} {lc lr one done two dtwo : Addr} {cvs rvs : List Value} {nc nr : Nat} {cols rows : List Int} {ka kb kc kd ke ja jb jc jd je : Tok} {lm lo : Addr} {om oo oc : Obj} {mvs ovs : Array Value} {nm no : Nat} {lsh : Addr} {osh : Obj} {svs : Array Value} {nsh : Nat} {lin : Addr} {oin : Obj} {ivs : Array Value} {nin : Nat} {dv : Value} {lf lw : Option Value} {wh : Bool} {x8 y8 w8 h8 : Int} {ux uy uw uh : Tok} (hst : st = (lawB.drop 21).take 1) (hcs : cs = lawS) (hd : dp ≤ 310) (hu : un ≤ 1000) (hb : Below A₀ base outer h₀) (X : (Mine.K0 w.params).In h₀) (T : Top Mine.Vw (looseW Mine.Vw [Str.ofString "Rectangle"]) mean mg mb h₀) (F : Fr h₀ L s.heap (fun q => if q = Str.ofString "whole" then some (.bool wh) else if q = Str.ofString "due" then some dv else if q = Str.ofString "left" then lf else if q = Str.ofString "low" then lw else if q = Str.ofString "inner" then some (.ref lin) else if q = Str.ofString "shared" then some (.ref lsh) else if q = Str.ofString "mine" then some (.ref lm) else if q = Str.ofString "two" then some (.ref two) else if q = Str.ofString "one" then some (.ref one) else if q = Str.ofString "rows" then some (.ref lr) else if q = Str.ofString "columns" then some (.ref lc) else if q = Str.ofString "d" then some (.int d td) else if q = Str.ofString "b" then some (.int b tb) else if q = Str.ofString "c" then some (.int c tc) else if q = Str.ofString "a" then some (.int a ta) else if q = Str.ofString "h" then some (.int ht th) else if q = Str.ofString "y" then some (.int y ty) else if q = Str.ofString "w" then some (.int wd tw) else if q = Str.ofString "x" then some (.int x tx) else if q = Str.ofString "script" then some (.ref l) else m0 q)) (N : News h₀ L s.heap [(lin, oin), (lsh, osh), (lm, om), (lo, oo), (one, instObj 203 done), (done, rd w.params ka kb kc kd ke x8 y8 w8 h8 ux uy uw uh), (two, instObj 203 dtwo), (dtwo, rd w.params ja jb jc jd je a b c d ta tb tc td), (lc, listOf cvs.toArray nc), (lr, listOf rvs.toArray nr), (c0, oc)]) (hw : wh = false) 
    (hk : ∀ (h' : Heap) (tk' : Nat), Fr h₀ L h' (fun q => if q = Str.ofString "whole" then some (.bool wh) else if q = Str.ofString "due" then some dv else if q = Str.ofString "left" then lf else if q = Str.ofString "low" then lw else if q = Str.ofString "inner" then some (.ref lin) else if q = Str.ofString "shared" then some (.ref lsh) else if q = Str.ofString "mine" then some (.ref lm) else if q = Str.ofString "two" then some (.ref two) else if q = Str.ofString "one" then some (.ref one) else if q = Str.ofString "rows" then some (.ref lr) else if q = Str.ofString "columns" then some (.ref lc) else if q = Str.ofString "d" then some (.int d td) else if q = Str.ofString "b" then some (.int b tb) else if q = Str.ofString "c" then some (.int c tc) else if q = Str.ofString "a" then some (.int a ta) else if q = Str.ofString "h" then some (.int ht th) else if q = Str.ofString "y" then some (.int y ty) else if q = Str.ofString "w" then some (.int wd tw) else if q = Str.ofString "x" then some (.int x tx) else if q = Str.ofString "script" then some (.ref l) else m0 q) → News h₀ L h' [(lin, oin), (lsh, osh), (lm, om), (lo, oo), (one, instObj 203 done), (done, rd w.params ka kb kc kd ke x8 y8 w8 h8 ux uy uw uh), (two, instObj 203 dtwo), (dtwo, rd w.params ja jb jc jd je a b c d ta tb tc td), (lc, listOf cvs.toArray nc), (lr, listOf rvs.toArray nr), (c0, oc)] → Q .next { s with heap := h', toks := tk' }) : wpAny (model PySem.Challenge.rw_jb0029_01.row.prog w) (ktrTop dp un gd cn cs L aa ccd [(Str.ofString "other", c0)] outer) (execs st (envX cn cs L aa ccd [(Str.ofString "other", c0)])) Q E s := by
  have hst2 : st = [_] := hst
  have hcs2 : cs = Scope.mk _ _ _ _ _ := hcs
  subst hst2 hcs2
  subst hw
  clear hst hcs
  refine cps ?_
  intro qz hqz
  k_steps
  (try dsimp only)
  exact hqz _ _ (hk _ _ (by k_asm) (by walk_at "m_news"))
end
end

-- P25
theorem rs27 {M : Model} {A : Around} {env : Env} {E : Value → Shared → Prop} {Q : Flow → Shared → Prop} {s : Shared} (h : wpAny M A (execs [] env) Q E s) : wpAny M A (execs [] env) Q E s := by
  w_top off
  first | (walk1; done) | exact h

section
section
variable {w : World} {dp un : Nat} {gd : Option (List Code)} {cn : Str} {cs : Scope} {L aa c0 l : Addr} {ccd : Value} {outer : List Env} {A₀ : Around} {base h₀ : Heap} {m0 : Str → Option Value} {mean : ExcName → Option Value} {mg mb : Str → Option Value} {s : Shared} {E : Value → Shared → Prop} {st : List Stmt} {Q : Flow → Shared → Prop}
set_option maxHeartbeats 400000 in
theorem chunkK22 {x wd y ht a c b d : Int} {tx tw ty th ta tc tb td : Tok} {lc lr one done two dtwo : Addr} {cvs rvs : List Value} {nc nr : Nat} {cols rows : List Int} {ka kb kc kd ke ja jb jc jd je : Tok} {lm lo : Addr} {om oo oc : Obj} {mvs ovs : Array Value} {nm no : Nat} {lsh : Addr} {osh : Obj} {svs : Array Value} {nsh : Nat} {lin : Addr} {oin : Obj} {ivs : Array Value} {nin : Nat} {dv : Value} {lf lw : Option Value} {wh : Bool} {ux uy uw uh : Tok} (hst : st = (lawB.drop 22).take 1) (hcs : cs = lawS) (hd : dp ≤ 310) (hu : un ≤ 1000) (hb : Below A₀ base outer h₀) (X : (Mine.K0 w.params).In h₀) (T : Top Mine.Vw (looseW Mine.Vw [Str.ofString "Rectangle"]) mean mg mb h₀) (F : Fr h₀ L s.heap (fun q => if q = Str.ofString "whole" then some (.bool wh) else if q = Str.ofString "due" then some dv else if q = Str.ofString "left" then lf else if q = Str.ofString "low" then lw else if q = Str.ofString "inner" then some (.ref lin) else if q = Str.ofString "shared" then some (.ref lsh) else if q = Str.ofString "mine" then some (.ref lm) else if q = Str.ofString "two" then some (.ref two) else if q = Str.ofString "one" then some (.ref one) else if q = Str.ofString "rows" then some (.ref lr) else if q = Str.ofString "columns" then some (.ref lc) else if q = Str.ofString "d" then some (.int d td) else if q = Str.ofString "b" then some (.int b tb) else if q = Str.ofString "c" then some (.int c tc) else if q = Str.ofString "a" then some (.int a ta) else if q = Str.ofString "h" then some (.int ht th) else if q = Str.ofString "y" then some (.int y ty) else if q = Str.ofString "w" then some (.int wd tw) else if q = Str.ofString "x" then some (.int x tx) else if q = Str.ofString "script" then some (.ref l) else m0 q)) (N : News h₀ L s.heap [(lin, oin), (lsh, osh), (lm, om), (lo, oo), (one, instObj 203 done), (done, rd w.params ka kb kc kd ke x y wd ht ux uy uw uh), (two, instObj 203 dtwo), (dtwo, rd w.params ja jb jc jd je a b c d ta tb tc td), (lc, listOf cvs.toArray nc), (lr, listOf rvs.toArray nr), (c0, oc)]) (d3 : oc.data = .cell (some (.ref lo))) (hG : AllBare s.gens)
    (hk : ∀ (h' : Heap) (tk' : Nat) (g' : Array GenState), AllBare g' → Fr h₀ L h' (fun q => if q = Str.ofString "whole" then some (.bool wh) else if q = Str.ofString "due" then some dv else if q = Str.ofString "left" then lf else if q = Str.ofString "low" then lw else if q = Str.ofString "inner" then some (.ref lin) else if q = Str.ofString "shared" then some (.ref lsh) else if q = Str.ofString "mine" then some (.ref lm) else if q = Str.ofString "two" then some (.ref two) else if q = Str.ofString "one" then some (.ref one) else if q = Str.ofString "rows" then some (.ref lr) else if q = Str.ofString "columns" then some (.ref lc) else if q = Str.ofString "d" then some (.int d td) else if q = Str.ofString "b" then some (.int b tb) else if q = Str.ofString "c" then some (.int c tc) else if q = Str.ofString "a" then some (.int a ta) else if q = Str.ofString "h" then some (.int ht th) else if q = Str.ofString "y" then some (.int y ty) else if q = Str.ofString "w" then some (.int wd tw) else if q = Str.ofString "x" then some (.int x tx) else if q = Str.ofString "script" then some (.ref l) else m0 q) → News h₀ L h' [(lin, oin), (lsh, osh), (lm, om), (lo, oo), (one, instObj 203 done), (done, rd w.params ka kb kc kd ke x y wd ht ux uy uw uh), (two, instObj 203 dtwo), (dtwo, rd w.params ja jb jc jd je a b c d ta tb tc td), (lc, listOf cvs.toArray nc), (lr, listOf rvs.toArray nr), (c0, oc)] → Q .next { s with heap := h', toks := tk', gens := g' }) : wpAny (model PySem.Challenge.rw_jb0029_01.row.prog w) (ktrTop dp un gd cn cs L aa ccd [(Str.ofString "other", c0)] outer) (execs st (envX cn cs L aa ccd [(Str.ofString "other", c0)])) Q E s := by
  have hst2 : st = [_] := hst
  have hcs2 : cs = Scope.mk _ _ _ _ _ := hcs
  subst hst2 hcs2
  clear hst hcs
  refine cps ?_
  intro qz hqz
  k_steps
  all_goals first | ((try dsimp only); exact hqz _ _ (hk _ _ _ (by with_reducible assumption) (by k_asm) (by walk_at "m_news"))) | (exfalso; rename_i a1; simp at a1; done) | skip

set_option maxHeartbeats 600000 in
theorem chunkL23 {x wd y ht a c b d : Int} {tx tw ty th ta tc tb td : Tok} {lc lr one done two dtwo : Addr} {cvs rvs : List Value} {nc nr : Nat} {cols rows : List Int} {ka kb kc kd ke ja jb jc jd je : Tok} {lm lo : Addr} {om oo oc : Obj} {mvs ovs : Array Value} {nm no : Nat} {lsh : Addr} {osh : Obj} {svs : Array Value} {nsh : Nat} {lin : Addr} {oin : Obj} {ivs : Array Value} {nin : Nat} {dv : Value} {lf lw : Option Value} {wh : Bool} {ux uy uw uh : Tok} (hst : st = (lawB.drop 23).take 1) (hcs : cs = lawS) (hd : dp ≤ 310) (hu : un ≤ 1000) (hb : Below A₀ base outer h₀) (X : (Mine.K0 w.params).In h₀) (T : Top Mine.Vw (looseW Mine.Vw [Str.ofString "Rectangle"]) mean mg mb h₀) (F : Fr h₀ L s.heap (fun q => if q = Str.ofString "whole" then some (.bool wh) else if q = Str.ofString "due" then some dv else if q = Str.ofString "left" then lf else if q = Str.ofString "low" then lw else if q = Str.ofString "inner" then some (.ref lin) else if q = Str.ofString "shared" then some (.ref lsh) else if q = Str.ofString "mine" then some (.ref lm) else if q = Str.ofString "two" then some (.ref two) else if q = Str.ofString "one" then some (.ref one) else if q = Str.ofString "rows" then some (.ref lr) else if q = Str.ofString "columns" then some (.ref lc) else if q = Str.ofString "d" then some (.int d td) else if q = Str.ofString "b" then some (.int b tb) else if q = Str.ofString "c" then some (.int c tc) else if q = Str.ofString "a" then some (.int a ta) else if q = Str.ofString "h" then some (.int ht th) else if q = Str.ofString "y" then some (.int y ty) else if q = Str.ofString "w" then some (.int wd tw) else if q = Str.ofString "x" then some (.int x tx) else if q = Str.ofString "script" then some (.ref l) else m0 q)) (N : News h₀ L s.heap [(lin, oin), (lsh, osh), (lm, om), (lo, oo), (one, instObj 203 done), (done, rd w.params ka kb kc kd ke x y wd ht ux uy uw uh), (two, instObj 203 dtwo), (dtwo, rd w.params ja jb jc jd je a b c d ta tb tc td), (lc, listOf cvs.toArray nc), (lr, listOf rvs.toArray nr), (c0, oc)])
    (hm : IntMulOk wd ht) (hm2 : IntMulOk c d)
    (hk : ∀ (h' : Heap) (tk' : Nat), Fr h₀ L h' (fun q => if q = Str.ofString "whole" then some (.bool wh) else if q = Str.ofString "due" then some dv else if q = Str.ofString "left" then lf else if q = Str.ofString "low" then lw else if q = Str.ofString "inner" then some (.ref lin) else if q = Str.ofString "shared" then some (.ref lsh) else if q = Str.ofString "mine" then some (.ref lm) else if q = Str.ofString "two" then some (.ref two) else if q = Str.ofString "one" then some (.ref one) else if q = Str.ofString "rows" then some (.ref lr) else if q = Str.ofString "columns" then some (.ref lc) else if q = Str.ofString "d" then some (.int d td) else if q = Str.ofString "b" then some (.int b tb) else if q = Str.ofString "c" then some (.int c tc) else if q = Str.ofString "a" then some (.int a ta) else if q = Str.ofString "h" then some (.int ht th) else if q = Str.ofString "y" then some (.int y ty) else if q = Str.ofString "w" then some (.int wd tw) else if q = Str.ofString "x" then some (.int x tx) else if q = Str.ofString "script" then some (.ref l) else m0 q) → News h₀ L h' [(lin, oin), (lsh, osh), (lm, om), (lo, oo), (one, instObj 203 done), (done, rd w.params ka kb kc kd ke x y wd ht ux uy uw uh), (two, instObj 203 dtwo), (dtwo, rd w.params ja jb jc jd je a b c d ta tb tc td), (lc, listOf cvs.toArray nc), (lr, listOf rvs.toArray nr), (c0, oc)] → Q .next { s with heap := h', toks := tk' }) : wpAny (model PySem.Challenge.rw_jb0029_01.row.prog w) (ktrTop dp un gd cn cs L aa ccd [(Str.ofString "other", c0)] outer) (execs st (envX cn cs L aa ccd [(Str.ofString "other", c0)])) Q E s := by
  have hst2 : st = [_] := hst
  have hcs2 : cs = Scope.mk _ _ _ _ _ := hcs
  subst hst2 hcs2
  clear hst hcs
  refine cps ?_
  intro qz hqz
  k_steps
  all_goals first | ((try dsimp only); exact hqz _ _ (hk _ _ (by k_asm) (by walk_at "m_news"))) | (exfalso; rename_i a1; rw [eq_perm] at a1; simp at a1; done) | (exfalso; rename_i a1; simp at a1; done) | skip
end
end

-- P26
theorem rs28 {M : Model} {A : Around} {env : Env} {E : Value → Shared → Prop} {Q : Flow → Shared → Prop} {s : Shared} (h : wpAny M A (execs [] env) Q E s) : wpAny M A (execs [] env) Q E s := by
  w_top off
  first | (walk1; done) | exact h

section
section
variable {w : World} {dp un : Nat} {gd : Option (List Code)} {cn : Str} {cs : Scope} {L aa c0 l : Addr} {ccd : Value} {outer : List Env} {A₀ : Around} {base h₀ : Heap} {m0 : Str → Option Value} {mean : ExcName → Option Value} {mg mb : Str → Option Value} {s : Shared} {E : Value → Shared → Prop} {st : List Stmt} {Q : Flow → Shared → Prop}
set_option maxHeartbeats 600000 in
theorem chunkM24t {x wd y ht a c b d : Int} {tx tw ty th ta tc tb td : Tok} {lc lr one done two dtwo : Addr} {cvs rvs : List Value} {nc nr : Nat} {cols rows : List Int} {ka kb kc kd ke ja jb jc jd je : Tok} {lm lo : Addr} {om oo oc : Obj} {mvs ovs : Array Value} {nm no : Nat} {lsh : Addr} {osh : Obj} {svs : Array Value} {nsh : Nat} {lin : Addr} {oin : Obj} {ivs : Array Value} {nin : Nat} {dv : Value} {lf lw : Option Value} {wh : Bool} {ux uy uw uh : Tok} (hst : st = (lawB.drop 24).take 1) (hcs : cs = lawS) (hd : dp ≤ 310) (hu : un ≤ 1000) (hb : Below A₀ base outer h₀) (X : (Mine.K0 w.params).In h₀) (T : Top Mine.Vw (looseW Mine.Vw [Str.ofString "Rectangle"]) mean mg mb h₀) (F : Fr h₀ L s.heap (fun q => if q = Str.ofString "whole" then some (.bool wh) else if q = Str.ofString "due" then some dv else if q = Str.ofString "left" then lf else if q = Str.ofString "low" then lw else if q = Str.ofString "inner" then some (.ref lin) else if q = Str.ofString "shared" then some (.ref lsh) else if q = Str.ofString "mine" then some (.ref lm) else if q = Str.ofString "two" then some (.ref two) else if q = Str.ofString "one" then some (.ref one) else if q = Str.ofString "rows" then some (.ref lr) else if q = Str.ofString "columns" then some (.ref lc) else if q = Str.ofString "d" then some (.int d td) else if q = Str.ofString "b" then some (.int b tb) else if q = Str.ofString "c" then some (.int c tc) else if q = Str.ofString "a" then some (.int a ta) else if q = Str.ofString "h" then some (.int ht th) else if q = Str.ofString "y" then some (.int y ty) else if q = Str.ofString "w" then some (.int wd tw) else if q = Str.ofString "x" then some (.int x tx) else if q = Str.ofString "script" then some (.ref l) else m0 q)) (N : News h₀ L s.heap [(lin, oin), (lsh, osh), (lm, om), (lo, oo), (one, instObj 203 done), (done, rd w.params ka kb kc kd ke x y wd ht ux uy uw uh), (two, instObj 203 dtwo), (dtwo, rd w.params ja jb jc jd je a b c d ta tb tc td), (lc, listOf cvs.toArray nc), (lr, listOf rvs.toArray nr), (c0, oc)]) (c1 : om.cls = .type "list") (d1 : om.data = .seq mvs nm) (c2 : oo.cls = .type "list") (d2 : oo.data = .seq ovs no) (c3 : osh.cls = .type "list") (e3 : osh.data = .seq svs nsh) (c4 : oin.cls = .type "list") (e4 : oin.data = .seq ivs nin) (d3 : oc.data = .cell (some (.ref lo))) (s1 : mvs.size ≤ 81) (s2 : ovs.size ≤ 81) (s3 : svs.size ≤ 81) (z1 : 0 ≤ wd) (z2 : 0 ≤ ht) (z3 : 0 ≤ c) (z4 : 0 ≤ d) (hw : wh = true)
    (k1 : decide (y ≤ b ∧ x ≤ a ∧ b + d ≤ y + ht ∧ a + c ≤ x + wd) = true) (k2 : decide (b ≤ y ∧ a ≤ x ∧ y + ht ≤ b + d ∧ x + wd ≤ a + c) = decide (x = a ∧ y = b ∧ wd = c ∧ ht = d))
    (hk : ∀ (h' : Heap) (tk' : Nat), Fr h₀ L h' (fun q => if q = Str.ofString "whole" then some (.bool wh) else if q = Str.ofString "due" then some dv else if q = Str.ofString "left" then lf else if q = Str.ofString "low" then lw else if q = Str.ofString "inner" then some (.ref lin) else if q = Str.ofString "shared" then some (.ref lsh) else if q = Str.ofString "mine" then some (.ref lm) else if q = Str.ofString "two" then some (.ref two) else if q = Str.ofString "one" then some (.ref one) else if q = Str.ofString "rows" then some (.ref lr) else if q = Str.ofString "columns" then some (.ref lc) else if q = Str.ofString "d" then some (.int d td) else if q = Str.ofString "b" then some (.int b tb) else if q = Str.ofString "c" then some (.int c tc) else if q = Str.ofString "a" then some (.int a ta) else if q = Str.ofString "h" then some (.int ht th) else if q = Str.ofString "y" then some (.int y ty) else if q = Str.ofString "w" then some (.int wd tw) else if q = Str.ofString "x" then some (.int x tx) else if q = Str.ofString "script" then some (.ref l) else m0 q) → News h₀ L h' [(lin, oin), (lsh, osh), (lm, om), (lo, oo), (one, instObj 203 done), (done, rd w.params ka kb kc kd ke x y wd ht ux uy uw uh), (two, instObj 203 dtwo), (dtwo, rd w.params ja jb jc jd je a b c d ta tb tc td), (lc, listOf cvs.toArray nc), (lr, listOf rvs.toArray nr), (c0, oc)] → Q .next { s with heap := h', toks := tk' }) : wpAny (model PySem.Challenge.rw_jb0029_01.row.prog w) (ktrTop dp un gd cn cs L aa ccd [(Str.ofString "other", c0)] outer) (execs st (envX cn cs L aa ccd [(Str.ofString "other", c0)])) Q E s := by
  have hst2 : st = [_] := hst
  have hcs2 : cs = Scope.mk _ _ _ _ _ := hcs
  subst hst2 hcs2
  subst hw
  clear hst hcs
  have p1 := ne_same k1
  have p2 := ne_same k2
  refine cps ?_
  intro qz hqz
  k_steps
  all_goals first | ((try dsimp only); exact hqz _ _ (hk _ _ (by k_asm) (by walk_at "m_news"))) | skip
  all_goals exfalso
  all_goals first
    | (rename_i a1; rw [k1] at a1; simp at a1; done)
    | (rename_i a1; rw [k2] at a1; simp at a1; done)
    | (rename_i a1; rw [k2, decide_eq_false (p := (x = a ∧ y = b ∧ wd = c ∧ ht = d)) (by assumption)] at a1; exact absurd a1 (by decide))
    | (rename_i a1; rw [k2, decide_eq_true (p := (x = a ∧ y = b ∧ wd = c ∧ ht = d)) (by assumption)] at a1; exact absurd a1 (by decide))
    | skip

set_option maxHeartbeats 600000 in
theorem chunkM24f {x wd y ht a c b d : Int} {tx tw ty th ta tc tb td : Tok} {lc lr one done two dtwo : Addr} {cvs rvs : List Value} {nc nr : Nat} {cols rows : List Int} {ka kb kc kd ke ja jb jc jd je : Tok} {lm lo : Addr} {om oo oc : Obj} {mvs ovs : Array Value} {nm no : Nat} {lsh : Addr} {osh : Obj} {svs : Array Value} {nsh : Nat} {lin : Addr} {oin : Obj} {ivs : Array Value} {nin : Nat} {dv : Value} {lf lw : Option Value} {wh : Bool} {ux uy uw uh : Tok} (hst : st = (lawB.drop 24).take 1) (hcs : cs = lawS) (hd : dp ≤ 310) (hu : un ≤ 1000) (hb : Below A₀ base outer h₀) (X : (Mine.K0 w.params).In h₀) (T : Top Mine.Vw (looseW Mine.Vw [Str.ofString "Rectangle"]) mean mg mb h₀) (F : Fr h₀ L s.heap (fun q => if q = Str.ofString "whole" then some (.bool wh) else if q = Str.ofString "due" then some dv else if q = Str.ofString "left" then lf else if q = Str.ofString "low" then lw else if q = Str.ofString "inner" then some (.ref lin) else if q = Str.ofString "shared" then some (.ref lsh) else if q = Str.ofString "mine" then some (.ref lm) else if q = Str.ofString "two" then some (.ref two) else if q = Str.ofString "one" then some (.ref one) else if q = Str.ofString "rows" then some (.ref lr) else if q = Str.ofString "columns" then some (.ref lc) else if q = Str.ofString "d" then some (.int d td) else if q = Str.ofString "b" then some (.int b tb) else if q = Str.ofString "c" then some (.int c tc) else if q = Str.ofString "a" then some (.int a ta) else if q = Str.ofString "h" then some (.int ht th) else if q = Str.ofString "y" then some (.int y ty) else if q = Str.ofString "w" then some (.int wd tw) else if q = Str.ofString "x" then some (.int x tx) else if q = Str.ofString "script" then some (.ref l) else m0 q)) (N : News h₀ L s.heap [(lin, oin), (lsh, osh), (lm, om), (lo, oo), (one, instObj 203 done), (done, rd w.params ka kb kc kd ke x y wd ht ux uy uw uh), (two, instObj 203 dtwo), (dtwo, rd w.params ja jb jc jd je a b c d ta tb tc td), (lc, listOf cvs.toArray nc), (lr, listOf rvs.toArray nr), (c0, oc)]) (c1 : om.cls = .type "list") (d1 : om.data = .seq mvs nm) (c2 : oo.cls = .type "list") (d2 : oo.data = .seq ovs no) (c3 : osh.cls = .type "list") (e3 : osh.data = .seq svs nsh) (c4 : oin.cls = .type "list") (e4 : oin.data = .seq ivs nin) (d3 : oc.data = .cell (some (.ref lo))) (s1 : mvs.size ≤ 81) (s2 : ovs.size ≤ 81) (s3 : svs.size ≤ 81) (z1 : 0 ≤ wd) (z2 : 0 ≤ ht) (z3 : 0 ≤ c) (z4 : 0 ≤ d) (hw : wh = false)
    (k1 : decide (y ≤ b ∧ x ≤ a ∧ b + d ≤ y + ht ∧ a + c ≤ x + wd) = (((svs.size : Nat) : Int) == ((ovs.size : Nat) : Int))) (k2 : decide (b ≤ y ∧ a ≤ x ∧ y + ht ≤ b + d ∧ x + wd ≤ a + c) = (((svs.size : Nat) : Int) == ((mvs.size : Nat) : Int)))
    (k3 : (x = a ∧ y = b ∧ wd = c ∧ ht = d) → (((svs.size : Nat) : Int) == ((mvs.size : Nat) : Int)) = true)
    (hk : ∀ (h' : Heap) (tk' : Nat), Fr h₀ L h' (fun q => if q = Str.ofString "whole" then some (.bool wh) else if q = Str.ofString "due" then some dv else if q = Str.ofString "left" then lf else if q = Str.ofString "low" then lw else if q = Str.ofString "inner" then some (.ref lin) else if q = Str.ofString "shared" then some (.ref lsh) else if q = Str.ofString "mine" then some (.ref lm) else if q = Str.ofString "two" then some (.ref two) else if q = Str.ofString "one" then some (.ref one) else if q = Str.ofString "rows" then some (.ref lr) else if q = Str.ofString "columns" then some (.ref lc) else if q = Str.ofString "d" then some (.int d td) else if q = Str.ofString "b" then some (.int b tb) else if q = Str.ofString "c" then some (.int c tc) else if q = Str.ofString "a" then some (.int a ta) else if q = Str.ofString "h" then some (.int ht th) else if q = Str.ofString "y" then some (.int y ty) else if q = Str.ofString "w" then some (.int wd tw) else if q = Str.ofString "x" then some (.int x tx) else if q = Str.ofString "script" then some (.ref l) else m0 q) → News h₀ L h' [(lin, oin), (lsh, osh), (lm, om), (lo, oo), (one, instObj 203 done), (done, rd w.params ka kb kc kd ke x y wd ht ux uy uw uh), (two, instObj 203 dtwo), (dtwo, rd w.params ja jb jc jd je a b c d ta tb tc td), (lc, listOf cvs.toArray nc), (lr, listOf rvs.toArray nr), (c0, oc)] → Q .next { s with heap := h', toks := tk' }) : wpAny (model PySem.Challenge.rw_jb0029_01.row.prog w) (ktrTop dp un gd cn cs L aa ccd [(Str.ofString "other", c0)] outer) (execs st (envX cn cs L aa ccd [(Str.ofString "other", c0)])) Q E s := by
  have hst2 : st = [_] := hst
  have hcs2 : cs = Scope.mk _ _ _ _ _ := hcs
  subst hst2 hcs2
  subst hw
  clear hst hcs
  have p1 := ne_same k1
  have p2 := ne_same k2
  refine cps ?_
  intro qz hqz
  k_steps
  all_goals first | ((try dsimp only); exact hqz _ _ (hk _ _ (by k_asm) (by walk_at "m_news"))) | skip
  all_goals exfalso
  all_goals first
    | (rename_i a1; rw [k1] at a1; simp at a1; done)
    | (rename_i a1; rw [k2] at a1; simp at a1; done)
    | (rename_i a1; rw [k2, k3 (by assumption), decide_eq_true (p := (x = a ∧ y = b ∧ wd = c ∧ ht = d)) (by assumption)] at a1; exact absurd a1 (by decide))
    | (rename_i a1; rw [k2, k3 (by assumption)] at a1; exact absurd a1 (by decide))
    | skip

set_option maxHeartbeats 600000 in
theorem chunkN25 {x wd y ht a c b d : Int} {tx tw ty th ta tc tb td : Tok} {lc lr one done two dtwo : Addr} {cvs rvs : List Value} {nc nr : Nat} {cols rows : List Int} {ka kb kc kd ke ja jb jc jd je : Tok} {lm lo : Addr} {om oo oc : Obj} {mvs ovs : Array Value} {nm no : Nat} {lsh : Addr} {osh : Obj} {svs : Array Value} {nsh : Nat} {lin : Addr} {oin : Obj} {ivs : Array Value} {nin : Nat} {dv : Value} {lf lw : Option Value} {wh : Bool} {ux uy uw uh : Tok} (hst : st = (lawB.drop 25).take 1) (hcs : cs = lawS) (hd : dp ≤ 310) (hu : un ≤ 1000) (hb : Below A₀ base outer h₀) (X : (Mine.K0 w.params).In h₀) (T : Top Mine.Vw (looseW Mine.Vw [Str.ofString "Rectangle"]) mean mg mb h₀) (F : Fr h₀ L s.heap (fun q => if q = Str.ofString "whole" then some (.bool wh) else if q = Str.ofString "due" then some dv else if q = Str.ofString "left" then lf else if q = Str.ofString "low" then lw else if q = Str.ofString "inner" then some (.ref lin) else if q = Str.ofString "shared" then some (.ref lsh) else if q = Str.ofString "mine" then some (.ref lm) else if q = Str.ofString "two" then some (.ref two) else if q = Str.ofString "one" then some (.ref one) else if q = Str.ofString "rows" then some (.ref lr) else if q = Str.ofString "columns" then some (.ref lc) else if q = Str.ofString "d" then some (.int d td) else if q = Str.ofString "b" then some (.int b tb) else if q = Str.ofString "c" then some (.int c tc) else if q = Str.ofString "a" then some (.int a ta) else if q = Str.ofString "h" then some (.int ht th) else if q = Str.ofString "y" then some (.int y ty) else if q = Str.ofString "w" then some (.int wd tw) else if q = Str.ofString "x" then some (.int x tx) else if q = Str.ofString "script" then some (.ref l) else m0 q)) (N : News h₀ L s.heap [(lin, oin), (lsh, osh), (lm, om), (lo, oo), (one, instObj 203 done), (done, rd w.params ka kb kc kd ke x y wd ht ux uy uw uh), (two, instObj 203 dtwo), (dtwo, rd w.params ja jb jc jd je a b c d ta tb tc td), (lc, listOf cvs.toArray nc), (lr, listOf rvs.toArray nr), (c0, oc)])
    (hk : ∀ (h' : Heap) (tk' : Nat), Fr h₀ L h' (fun q => if q = Str.ofString "whole" then some (.bool wh) else if q = Str.ofString "due" then some dv else if q = Str.ofString "left" then lf else if q = Str.ofString "low" then lw else if q = Str.ofString "inner" then some (.ref lin) else if q = Str.ofString "shared" then some (.ref lsh) else if q = Str.ofString "mine" then some (.ref lm) else if q = Str.ofString "two" then some (.ref two) else if q = Str.ofString "one" then some (.ref one) else if q = Str.ofString "rows" then some (.ref lr) else if q = Str.ofString "columns" then some (.ref lc) else if q = Str.ofString "d" then some (.int d td) else if q = Str.ofString "b" then some (.int b tb) else if q = Str.ofString "c" then some (.int c tc) else if q = Str.ofString "a" then some (.int a ta) else if q = Str.ofString "h" then some (.int ht th) else if q = Str.ofString "y" then some (.int y ty) else if q = Str.ofString "w" then some (.int wd tw) else if q = Str.ofString "x" then some (.int x tx) else if q = Str.ofString "script" then some (.ref l) else m0 q) → Q (.ret (.bool true)) { s with heap := h', toks := tk' }) : wpAny (model PySem.Challenge.rw_jb0029_01.row.prog w) (ktrTop dp un gd cn cs L aa ccd [(Str.ofString "other", c0)] outer) (execs st (envX cn cs L aa ccd [(Str.ofString "other", c0)])) Q E s := by
  have hst2 : st = [_] := hst
  have hcs2 : cs = Scope.mk _ _ _ _ _ := hcs
  subst hst2 hcs2
  clear hst hcs
  refine cps ?_
  intro qz hqz
  k_steps
  (try dsimp only)
  rw [self4]
  exact hqz _ _ (hk _ _ (by k_asm))
end
end

-- P27
theorem rs29 {M : Model} {A : Around} {env : Env} {E : Value → Shared → Prop} {Q : Flow → Shared → Prop} {s : Shared} (h : wpAny M A (execs [] env) Q E s) : wpAny M A (execs [] env) Q E s := by
  w_top off
  first | (walk1; done) | exact h

section
local macro_rules | `(tactic| walk_at "call ref") => `(tactic| (k_here; (with_reducible show wpAny _ _ (call (Value.ref 200) [_, _]) _ _ _); k_dflt (refine' call_pur (join_f ?hd ?hu ?a ?da ?b ?db ?kA ?kB ?kC) ?B ?F ?X ?T ?hk ?N ?_; walk_at "m_s4"; (case kA => with_reducible assumption); (case kB => with_reducible assumption); (case kC => with_reducible assumption)); walk_at "m_t0"))

section
variable {w : World} {dp un : Nat} {gd : Option (List Code)} {cn : Str} {cs : Scope} {L aa c0 l : Addr} {ccd : Value} {outer : List Env} {A₀ : Around} {base h₀ : Heap} {m0 : Str → Option Value} {mean : ExcName → Option Value} {mg mb : Str → Option Value} {s : Shared} {E : Value → Shared → Prop} {st : List Stmt} {Q : Flow → Shared → Prop}
set_option maxHeartbeats 4000000 in
theorem chunkI20f {x wd y ht a c b d : Int} {tx tw ty th ta tc tb td : Tok} {lc lr one done two dtwo : Addr} {cvs rvs : List Value} {nc nr : Nat} {cols rows : List Int} {ka kb kc kd ke ja jb jc jd je : Tok} {lm lo : Addr} {om oo oc : Obj} {mvs ovs : Array Value} {nm no : Nat} {lsh : Addr} {osh : Obj} {svs : Array Value} {nsh : Nat} {lin : Addr} {oin : Obj} {ivs : Array Value} {nin : Nat} {dv : Value} {lf lw : Option Value} {wh : Bool} (hst : st = (lawB.drop 20).take 1) (hcs : cs = lawS) (hd : dp ≤ 310) (hu : un ≤ 1000) (hb : Below A₀ base outer h₀) (X : (Mine.K0 w.params).In h₀) (T : Top Mine.Vw (looseW Mine.Vw [Str.ofString "Rectangle"]) mean mg mb h₀) (F : Fr h₀ L s.heap (fun q => if q = Str.ofString "whole" then some (.bool wh) else if q = Str.ofString "due" then some dv else if q = Str.ofString "left" then lf else if q = Str.ofString "low" then lw else if q = Str.ofString "inner" then some (.ref lin) else if q = Str.ofString "shared" then some (.ref lsh) else if q = Str.ofString "mine" then some (.ref lm) else if q = Str.ofString "two" then some (.ref two) else if q = Str.ofString "one" then some (.ref one) else if q = Str.ofString "rows" then some (.ref lr) else if q = Str.ofString "columns" then some (.ref lc) else if q = Str.ofString "d" then some (.int d td) else if q = Str.ofString "b" then some (.int b tb) else if q = Str.ofString "c" then some (.int c tc) else if q = Str.ofString "a" then some (.int a ta) else if q = Str.ofString "h" then some (.int ht th) else if q = Str.ofString "y" then some (.int y ty) else if q = Str.ofString "w" then some (.int wd tw) else if q = Str.ofString "x" then some (.int x tx) else if q = Str.ofString "script" then some (.ref l) else m0 q)) (N : News h₀ L s.heap [(lin, oin), (lsh, osh), (lm, om), (lo, oo), (one, instObj 203 done), (done, rd w.params ka kb kc kd ke x y wd ht tx ty tw th), (two, instObj 203 dtwo), (dtwo, rd w.params ja jb jc jd je a b c d ta tb tc td), (lc, listOf cvs.toArray nc), (lr, listOf rvs.toArray nr), (c0, oc)]) (d3 : oc.data = .cell (some (.ref lo))) (hw : wh = false)
    (kA : ¬ (y ≤ b ∧ x ≤ a ∧ b + d ≤ y + ht ∧ a + c ≤ x + wd)) (kB : ¬ (b ≤ y ∧ a ≤ x ∧ y + ht ≤ b + d ∧ x + wd ≤ a + c)) (kC : ¬ (y ≤ b + d ∧ b ≤ y + ht ∧ x ≤ a + c ∧ a ≤ x + wd) ∨ (¬ (x = a ∧ wd = c) ∧ ¬ (y = b ∧ ht = d)))
    (hG : AllBare s.gens)
    (hk : ∀ (h' : Heap) (tk' : Nat) (g' : Array GenState), AllBare g' → Fr h₀ L h' (fun q => if q = Str.ofString "whole" then some (.bool wh) else if q = Str.ofString "due" then some dv else if q = Str.ofString "left" then lf else if q = Str.ofString "low" then lw else if q = Str.ofString "inner" then some (.ref lin) else if q = Str.ofString "shared" then some (.ref lsh) else if q = Str.ofString "mine" then some (.ref lm) else if q = Str.ofString "two" then some (.ref two) else if q = Str.ofString "one" then some (.ref one) else if q = Str.ofString "rows" then some (.ref lr) else if q = Str.ofString "columns" then some (.ref lc) else if q = Str.ofString "d" then some (.int d td) else if q = Str.ofString "b" then some (.int b tb) else if q = Str.ofString "c" then some (.int c tc) else if q = Str.ofString "a" then some (.int a ta) else if q = Str.ofString "h" then some (.int ht th) else if q = Str.ofString "y" then some (.int y ty) else if q = Str.ofString "w" then some (.int wd tw) else if q = Str.ofString "x" then some (.int x tx) else if q = Str.ofString "script" then some (.ref l) else m0 q) → News h₀ L h' [(lin, oin), (lsh, osh), (lm, om), (lo, oo), (one, instObj 203 done), (done, rd w.params ka kb kc kd ke x y wd ht tx ty tw th), (two, instObj 203 dtwo), (dtwo, rd w.params ja jb jc jd je a b c d ta tb tc td), (lc, listOf cvs.toArray nc), (lr, listOf rvs.toArray nr), (c0, oc)] → Q .next { s with heap := h', toks := tk', gens := g' }) : wpAny (model PySem.Challenge.rw_jb0029_01.row.prog w) (ktrTop dp un gd cn cs L aa ccd [(Str.ofString "other", c0)] outer) (execs st (envX cn cs L aa ccd [(Str.ofString "other", c0)])) Q E s := by
  have hst2 : st = [_] := hst
  have hcs2 : cs = Scope.mk _ _ _ _ _ := hcs
  subst hst2 hcs2
  subst hw
  clear hst hcs
  refine cps ?_
  intro qz hqz
  k_steps
  all_goals first
    | ((try dsimp only); exact hqz _ _ (hk _ _ _ (by with_reducible assumption) (by k_asm) (by walk_at "m_news")))
    | (exfalso; rename_i a1; exact absurd rfl a1)
    | (exfalso; rename_i a1; exact absurd (And.intro rfl (And.intro rfl (And.intro rfl rfl))) a1)
    | skip
end
end

-- PL1
section
theorem get_idx {l : List Int} {x : Int} (h : x ∈ l) : l.getD (l.idxOf x) 0 = x := by
  have hl : l.idxOf x < l.length := List.idxOf_lt_length_iff.mpr h
  rw [List.getD_eq_getElem?_getD, List.getElem?_eq_getElem hl]
  exact List.getElem_idxOf hl
theorem idx_iff {l : List Int} {x y : Int} (hp : l.Pairwise (· < ·)) (hx : x ∈ l) (hy : y ∈ l) : x ≤ y ↔ l.idxOf x ≤ l.idxOf y := by
  refine ⟨idx_le hp hx hy, fun h => ?_⟩
  refine Decidable.byContradiction fun hn => ?_
  have h2 := idx_le hp hy hx (by omega)
  have e : l.idxOf x = l.idxOf y := Nat.le_antisymm h h2
  have e2 := get_idx hx
  rw [e, get_idx hy] at e2
  omega
theorem idx_get {l : List Int} (hp : l.Pairwise (· < ·)) {i : Nat} (hi : i < l.length) : l.idxOf l[i] = i := by
  have hm : l[i] ∈ l := List.getElem_mem hi
  have hj : l.idxOf l[i] < l.length := List.idxOf_lt_length_iff.mpr hm
  have e : l[l.idxOf l[i]] = l[i] := List.getElem_idxOf hj
  have key := List.pairwise_iff_getElem.mp hp
  rcases Nat.lt_trichotomy (l.idxOf l[i]) i with h | h | h
  · have := key _ _ hj hi h
    omega
  · exact h
  · have := key _ _ hi hj h
    omega

/-- what the indices of one axis say -/
structure Axis (cols : List Int) (x w a c : Int) (X1 X2 A1 A2 : Nat) : Prop where
  x1 : cols.idxOf x = X1
  x2 : cols.idxOf (x + w) = X2
  a1 : cols.idxOf a = A1
  a2 : cols.idxOf (a + c) = A2
  xx : X1 ≤ X2
  aa : A1 ≤ A2
  b4 : X2 < 4 ∧ A2 < 4
  o1 : x ≤ a ↔ X1 ≤ A1
  o2 : a ≤ x ↔ A1 ≤ X1
  o3 : x + w ≤ a + c ↔ X2 ≤ A2
  o4 : a + c ≤ x + w ↔ A2 ≤ X2
  o5 : x ≤ a + c ↔ X1 ≤ A2
  o6 : a ≤ x + w ↔ A1 ≤ X2
  t1 : x < a + c ↔ X1 < A2
  t2 : a < x + w ↔ A1 < X2
  s1 : w = 0 ↔ X1 = X2
  s2 : c = 0 ↔ A1 = A2
  lo : min X1 A1 = 0
  hi : cols.length = max X2 A2 + 1
  g1 : cols.getD (max X1 A1) 0 = max x a
  g2 : cols.getD (min X2 A2) 0 = min (x + w) (a + c)
  g3 : cols.getD 0 0 = min x a
  g4 : cols.getD (cols.length - 1) 0 = max (x + w) (a + c)

theorem axis {cols : List Int} {x w a c : Int} (hp : cols.Pairwise (· < ·)) (hm : ∀ z, z ∈ cols ↔ z ∈ [x, x + w, a, a + c]) (h4 : cols.length ≤ 4) (hw : 0 ≤ w) (hc : 0 ≤ c) :
    Axis cols x w a c (cols.idxOf x) (cols.idxOf (x + w)) (cols.idxOf a) (cols.idxOf (a + c)) := by
  have mx : x ∈ cols := (hm x).mpr (by simp)
  have mx2 : x + w ∈ cols := (hm _).mpr (by simp)
  have ma : a ∈ cols := (hm a).mpr (by simp)
  have ma2 : a + c ∈ cols := (hm _).mpr (by simp)
  have xx := (idx_iff hp mx mx2).mp (by omega)
  have aa := (idx_iff hp ma ma2).mp (by omega)
  have o1 := idx_iff hp mx ma
  have o2 := idx_iff hp ma mx
  have o3 := idx_iff hp mx2 ma2
  have o4 := idx_iff hp ma2 mx2
  have lx2 : cols.idxOf (x + w) < cols.length := List.idxOf_lt_length_iff.mpr mx2
  have la2 : cols.idxOf (a + c) < cols.length := List.idxOf_lt_length_iff.mpr ma2
  have gx := get_idx mx
  have gx2 := get_idx mx2
  have ga := get_idx ma
  have ga2 := get_idx ma2
  have hpos : 0 < cols.length := by omega
  have lo : min (cols.idxOf x) (cols.idxOf a) = 0 := by
    have h0 := idx_get hp hpos
    have hmem : cols[0] ∈ cols := List.getElem_mem hpos
    have h4 := (hm _).mp hmem
    simp only [List.mem_cons, List.not_mem_nil, or_false] at h4
    rcases h4 with e | e | e | e <;> rw [e] at h0 <;> omega
  have hi : cols.length = max (cols.idxOf (x + w)) (cols.idxOf (a + c)) + 1 := by
    have hlt : cols.length - 1 < cols.length := by omega
    have h0 := idx_get hp hlt
    have hmem : cols[cols.length - 1] ∈ cols := List.getElem_mem hlt
    have h4 := (hm _).mp hmem
    simp only [List.mem_cons, List.not_mem_nil, or_false] at h4
    rcases h4 with e | e | e | e <;> rw [e] at h0 <;> omega
  refine ⟨rfl, rfl, rfl, rfl, xx, aa, ⟨by omega, by omega⟩, o1, o2, o3, o4, idx_iff hp mx ma2, idx_iff hp ma mx2, ?_, ?_, ?_, ?_, lo, hi, ?_, ?_, ?_, ?_⟩
  · have := idx_iff hp ma2 mx
    omega
  · have := idx_iff hp mx2 ma
    omega
  · have := idx_iff hp mx2 mx
    omega
  · have := idx_iff hp ma2 ma
    omega
  · rcases Int.le_total x a with h | h
    · rw [show max (cols.idxOf x) (cols.idxOf a) = cols.idxOf a by have := o1.mp h; omega, ga]; omega
    · rw [show max (cols.idxOf x) (cols.idxOf a) = cols.idxOf x by have := o2.mp h; omega, gx]; omega
  · rcases Int.le_total (x + w) (a + c) with h | h
    · rw [show min (cols.idxOf (x + w)) (cols.idxOf (a + c)) = cols.idxOf (x + w) by have := o3.mp h; omega, gx2]; omega
    · rw [show min (cols.idxOf (x + w)) (cols.idxOf (a + c)) = cols.idxOf (a + c) by have := o4.mp h; omega, ga2]; omega
  · rcases Int.le_total x a with h | h
    · have e : cols.idxOf x = 0 := by have := o1.mp h; omega
      rw [e] at gx
      rw [gx]; omega
    · have e : cols.idxOf a = 0 := by have := o2.mp h; omega
      rw [e] at ga
      rw [ga]; omega
  · rcases Int.le_total (x + w) (a + c) with h | h
    · rw [show cols.length - 1 = cols.idxOf (a + c) by have := o3.mp h; omega, ga2]; omega
    · rw [show cols.length - 1 = cols.idxOf (x + w) by have := o4.mp h; omega, gx2]; omega

theorem mem_grid {p q p' q' : Nat} {z : Int × Int} : z ∈ grid p q p' q' ↔ (2 * (p : Int) ≤ z.1 ∧ z.1 ≤ 2 * (q : Int)) ∧ (2 * (p' : Int) ≤ z.2 ∧ z.2 ≤ 2 * (q' : Int)) := by
  obtain ⟨u, v⟩ := z
  unfold grid
  simp only [List.mem_flatMap, List.mem_range, List.mem_map, Prod.mk.injEq]
  constructor
  · rintro ⟨i, hi, k, hk, e1, e2⟩
    omega
  · rintro ⟨⟨h1, h2⟩, h3, h4⟩
    exact ⟨(u - 2 * p).toNat, by omega, (v - 2 * p').toNat, by omega, by omega, by omega⟩

theorem count_range (lo hi : Nat) : ∀ n : Nat, ((List.range n).filter fun i => decide (lo ≤ i ∧ i < hi)).length = min n hi - lo
  | 0 => by simp
  | n + 1 => by
    rw [List.range_succ, List.filter_append, List.length_append, count_range lo hi n]
    by_cases h : lo ≤ n ∧ n < hi
    · rw [List.filter_cons_of_pos (by simpa using h)]
      simp only [List.filter_nil, List.length_cons, List.length_nil]
      omega
    · rw [List.filter_cons_of_neg (by simpa using h)]
      simp only [List.filter_nil, List.length_nil]
      omega
theorem length_flat_if {α β : Type} (g : α → Bool) (f : α → List β) (m : Nat) (hf : ∀ a, (f a).length = if g a then m else 0) : ∀ l : List α, (l.flatMap f).length = (l.filter g).length * m
  | [] => by simp
  | a :: l => by
    rw [List.flatMap_cons, List.length_append, hf a, length_flat_if g f m hf l]
    cases h : g a with
    | true => rw [List.filter_cons_of_pos h, List.length_cons, Nat.succ_mul]; simp; omega
    | false => rw [List.filter_cons_of_neg (by simp [h])]; simp

/-! one axis, its indices below four: by looking at all of them -/
theorem axf0 : ∀ X1 X2 A1 A2 : Fin 4, X1 ≤ X2 → A1 ≤ A2 → (min (2 * X2.1 + 1 - 2 * X1.1) (2 * A2.1 + 1 - 2 * X1.1) - (2 * A1.1 - 2 * X1.1) = 2 * min X2.1 A2.1 + 1 - 2 * max X1.1 A1.1) := by decide +kernel
theorem axf1 : ∀ X1 X2 A1 A2 : Fin 4, X1 ≤ X2 → A1 ≤ A2 → ((2 * min X2.1 A2.1 + 1 - 2 * max X1.1 A1.1 ≤ 2 * A2.1 + 1 - 2 * A1.1) ∧ (2 * min X2.1 A2.1 + 1 - 2 * max X1.1 A1.1 ≤ 2 * X2.1 + 1 - 2 * X1.1) ∧ 0 < 2 * A2.1 + 1 - 2 * A1.1 ∧ 0 < 2 * X2.1 + 1 - 2 * X1.1) := by decide +kernel
theorem axf2 : ∀ X1 X2 A1 A2 : Fin 4, X1 ≤ X2 → A1 ≤ A2 → (2 * min X2.1 A2.1 + 1 - 2 * max X1.1 A1.1 = 2 * A2.1 + 1 - 2 * A1.1 ↔ X1.1 ≤ A1.1 ∧ A2.1 ≤ X2.1) := by decide +kernel
theorem axf3 : ∀ X1 X2 A1 A2 : Fin 4, X1 ≤ X2 → A1 ≤ A2 → (2 * min X2.1 A2.1 + 1 - 2 * max X1.1 A1.1 = 2 * X2.1 + 1 - 2 * X1.1 ↔ A1.1 ≤ X1.1 ∧ X2.1 ≤ A2.1) := by decide +kernel
theorem axf4 : ∀ X1 X2 A1 A2 : Fin 4, X1 ≤ X2 → A1 ≤ A2 → (0 < 2 * min X2.1 A2.1 + 1 - 2 * max X1.1 A1.1 ↔ X1.1 ≤ A2.1 ∧ A1.1 ≤ X2.1) := by decide +kernel
theorem ax_parts : ∀ X1 X2 A1 A2 : Fin 4, X1 ≤ X2 → A1 ≤ A2 → min X1.1 A1.1 = 0 →
    (2 * X2.1 + 1 - 2 * X1.1 = (2 * min X2.1 A2.1 + 1 - 2 * max X1.1 A1.1) + (2 * X2.1 + 1 - 2 * X1.1 - (2 * min X2.1 A2.1 + 1 - 2 * max X1.1 A1.1))) ∧
    (2 * A2.1 + 1 - 2 * A1.1 = (2 * min X2.1 A2.1 + 1 - 2 * max X1.1 A1.1) + (2 * A2.1 + 1 - 2 * A1.1 - (2 * min X2.1 A2.1 + 1 - 2 * max X1.1 A1.1))) ∧
    (2 * (max X2.1 A2.1 + 1) - 1 = (2 * min X2.1 A2.1 + 1 - 2 * max X1.1 A1.1) + (2 * X2.1 + 1 - 2 * X1.1 - (2 * min X2.1 A2.1 + 1 - 2 * max X1.1 A1.1)) + (2 * A2.1 + 1 - 2 * A1.1 - (2 * min X2.1 A2.1 + 1 - 2 * max X1.1 A1.1)) +
      (2 * (max X2.1 A2.1 + 1) - 1 - ((2 * min X2.1 A2.1 + 1 - 2 * max X1.1 A1.1) + (2 * X2.1 + 1 - 2 * X1.1 - (2 * min X2.1 A2.1 + 1 - 2 * max X1.1 A1.1)) + (2 * A2.1 + 1 - 2 * A1.1 - (2 * min X2.1 A2.1 + 1 - 2 * max X1.1 A1.1))))) ∧
    (0 < (2 * min X2.1 A2.1 + 1 - 2 * max X1.1 A1.1) + (2 * X2.1 + 1 - 2 * X1.1 - (2 * min X2.1 A2.1 + 1 - 2 * max X1.1 A1.1))) ∧
    ((2 * X2.1 + 1 - 2 * X1.1 - (2 * min X2.1 A2.1 + 1 - 2 * max X1.1 A1.1)) = 0 ↔ (A1.1 ≤ X1.1 ∧ X2.1 ≤ A2.1)) ∧
    ((2 * A2.1 + 1 - 2 * A1.1 - (2 * min X2.1 A2.1 + 1 - 2 * max X1.1 A1.1)) = 0 ↔ (X1.1 ≤ A1.1 ∧ A2.1 ≤ X2.1)) ∧
    ((2 * (max X2.1 A2.1 + 1) - 1 - ((2 * min X2.1 A2.1 + 1 - 2 * max X1.1 A1.1) + (2 * X2.1 + 1 - 2 * X1.1 - (2 * min X2.1 A2.1 + 1 - 2 * max X1.1 A1.1)) + (2 * A2.1 + 1 - 2 * A1.1 - (2 * min X2.1 A2.1 + 1 - 2 * max X1.1 A1.1)))) = 0 ↔ (X1.1 ≤ A2.1 ∧ A1.1 ≤ X2.1)) := by
  decide +kernel

section
variable {X1 X2 A1 A2 : Nat}
theorem parts (b : X2 < 4 ∧ A2 < 4) (xx : X1 ≤ X2) (aa : A1 ≤ A2) (lo : min X1 A1 = 0) :
    ∃ p q r, 2 * X2 + 1 - 2 * X1 = (2 * min X2 A2 + 1 - 2 * max X1 A1) + p ∧ 2 * A2 + 1 - 2 * A1 = (2 * min X2 A2 + 1 - 2 * max X1 A1) + q ∧ 2 * (max X2 A2 + 1) - 1 = (2 * min X2 A2 + 1 - 2 * max X1 A1) + p + q + r ∧ 0 < (2 * min X2 A2 + 1 - 2 * max X1 A1) + p ∧
      (p = 0 ↔ (A1 ≤ X1 ∧ X2 ≤ A2)) ∧ (q = 0 ↔ (X1 ≤ A1 ∧ A2 ≤ X2)) ∧ (r = 0 ↔ (X1 ≤ A2 ∧ A1 ≤ X2)) :=
  ⟨_, _, _, ax_parts ⟨X1, Nat.lt_of_le_of_lt xx b.1⟩ ⟨X2, b.1⟩ ⟨A1, Nat.lt_of_le_of_lt aa b.2⟩ ⟨A2, b.2⟩ xx aa lo⟩
theorem ax0 (b : X2 < 4 ∧ A2 < 4) (xx : X1 ≤ X2) (aa : A1 ≤ A2) : (min (2 * X2 + 1 - 2 * X1) (2 * A2 + 1 - 2 * X1) - (2 * A1 - 2 * X1) = 2 * min X2 A2 + 1 - 2 * max X1 A1) := axf0 ⟨X1, Nat.lt_of_le_of_lt xx b.1⟩ ⟨X2, b.1⟩ ⟨A1, Nat.lt_of_le_of_lt aa b.2⟩ ⟨A2, b.2⟩ xx aa
theorem ax1 (b : X2 < 4 ∧ A2 < 4) (xx : X1 ≤ X2) (aa : A1 ≤ A2) : ((2 * min X2 A2 + 1 - 2 * max X1 A1 ≤ 2 * A2 + 1 - 2 * A1) ∧ (2 * min X2 A2 + 1 - 2 * max X1 A1 ≤ 2 * X2 + 1 - 2 * X1) ∧ 0 < 2 * A2 + 1 - 2 * A1 ∧ 0 < 2 * X2 + 1 - 2 * X1) := axf1 ⟨X1, Nat.lt_of_le_of_lt xx b.1⟩ ⟨X2, b.1⟩ ⟨A1, Nat.lt_of_le_of_lt aa b.2⟩ ⟨A2, b.2⟩ xx aa
theorem ax2 (b : X2 < 4 ∧ A2 < 4) (xx : X1 ≤ X2) (aa : A1 ≤ A2) : (2 * min X2 A2 + 1 - 2 * max X1 A1 = 2 * A2 + 1 - 2 * A1 ↔ X1 ≤ A1 ∧ A2 ≤ X2) := axf2 ⟨X1, Nat.lt_of_le_of_lt xx b.1⟩ ⟨X2, b.1⟩ ⟨A1, Nat.lt_of_le_of_lt aa b.2⟩ ⟨A2, b.2⟩ xx aa
theorem ax3 (b : X2 < 4 ∧ A2 < 4) (xx : X1 ≤ X2) (aa : A1 ≤ A2) : (2 * min X2 A2 + 1 - 2 * max X1 A1 = 2 * X2 + 1 - 2 * X1 ↔ A1 ≤ X1 ∧ X2 ≤ A2) := axf3 ⟨X1, Nat.lt_of_le_of_lt xx b.1⟩ ⟨X2, b.1⟩ ⟨A1, Nat.lt_of_le_of_lt aa b.2⟩ ⟨A2, b.2⟩ xx aa
theorem ax4 (b : X2 < 4 ∧ A2 < 4) (xx : X1 ≤ X2) (aa : A1 ≤ A2) : (0 < 2 * min X2 A2 + 1 - 2 * max X1 A1 ↔ X1 ≤ A2 ∧ A1 ≤ X2) := axf4 ⟨X1, Nat.lt_of_le_of_lt xx b.1⟩ ⟨X2, b.1⟩ ⟨A1, Nat.lt_of_le_of_lt aa b.2⟩ ⟨A2, b.2⟩ xx aa
theorem cut1 {i : Nat} : (2 * (A1 : Int) ≤ 2 * (X1 : Int) + (i : Int) ∧ 2 * (X1 : Int) + (i : Int) ≤ 2 * (A2 : Int)) ↔ (2 * A1 - 2 * X1 ≤ i ∧ i < 2 * A2 + 1 - 2 * X1) := by
  omega
end

/-- how many points two grids share -/
theorem shared_len (X1 X2 Y1 Y2 A1 A2 B1 B2 : Nat) (bX : X2 < 4 ∧ A2 < 4) (bY : Y2 < 4 ∧ B2 < 4) (xx : X1 ≤ X2) (aa : A1 ≤ A2) (yy : Y1 ≤ Y2) (bb : B1 ≤ B2) : ((grid X1 X2 Y1 Y2).filter fun p => decide (p ∈ grid A1 A2 B1 B2)).length =
    (2 * min X2 A2 + 1 - 2 * max X1 A1) * (2 * min Y2 B2 + 1 - 2 * max Y1 B1) := by
  rw [← ax0 bX xx aa, ← ax0 bY yy bb]
  unfold grid
  rw [List.filter_flatMap]
  rw [length_flat_if (fun i => decide (2 * A1 - 2 * X1 ≤ i ∧ i < 2 * A2 + 1 - 2 * X1)) _ (min (2 * Y2 + 1 - 2 * Y1) (2 * B2 + 1 - 2 * Y1) - (2 * B1 - 2 * Y1))]
  · rw [count_range]
  · intro i
    have key : ∀ k : Nat, ((2 * (X1 : Int) + (i : Int), 2 * (Y1 : Int) + (k : Int)) ∈ grid A1 A2 B1 B2) ↔ (2 * A1 - 2 * X1 ≤ i ∧ i < 2 * A2 + 1 - 2 * X1) ∧ (2 * B1 - 2 * Y1 ≤ k ∧ k < 2 * B2 + 1 - 2 * Y1) := by
      intro k
      rw [mem_grid]
      exact and_congr cut1 cut1
    rw [List.filter_map, List.length_map]
    by_cases h : 2 * A1 - 2 * X1 ≤ i ∧ i < 2 * A2 + 1 - 2 * X1
    · have e : ((fun p : Int × Int => decide (p ∈ grid A1 A2 B1 B2)) ∘ fun k : Nat => (2 * (X1 : Int) + (i : Int), 2 * (Y1 : Int) + (k : Int))) = fun k => decide (2 * B1 - 2 * Y1 ≤ k ∧ k < 2 * B2 + 1 - 2 * Y1) := by
        funext k
        show decide _ = decide _
        rw [decide_eq_decide, key k]
        exact ⟨fun q => q.2, fun q => ⟨h, q⟩⟩
      unfold grid at e
      rw [e, count_range, if_pos (decide_eq_true h)]
    · have e : ((fun p : Int × Int => decide (p ∈ grid A1 A2 B1 B2)) ∘ fun k : Nat => (2 * (X1 : Int) + (i : Int), 2 * (Y1 : Int) + (k : Int))) = fun _ => false := by
        funext k
        show decide _ = false
        rw [decide_eq_false_iff_not, key k]
        exact fun q => h q.1
      unfold grid at e
      rw [e, if_neg (by rw [decide_eq_false h]; exact Bool.false_ne_true)]
      simp
theorem prod_eq {n k l m : Nat} (h1 : n ≤ l) (h2 : k ≤ m) (p1 : 0 < l) (p2 : 0 < m) : n * k = l * m ↔ n = l ∧ k = m := by
  constructor
  · intro h
    have a1 : n * k ≤ n * m := Nat.mul_le_mul_left _ h2
    have a2 : n * m ≤ l * m := Nat.mul_le_mul_right _ h1
    have e1 : n * m = l * m := by omega
    have e2 : n = l := Nat.eq_of_mul_eq_mul_right p2 e1
    subst e2
    have e3 : n * k = n * m := by omega
    exact ⟨rfl, Nat.eq_of_mul_eq_mul_left p1 e3⟩
  · rintro ⟨rfl, rfl⟩
    rfl
theorem prod_pos {n k : Nat} : 0 < n * k ↔ 0 < n ∧ 0 < k := by
  constructor
  · intro h
    constructor
    · refine Nat.pos_of_ne_zero ?_
      rintro rfl
      simp at h
    · refine Nat.pos_of_ne_zero ?_
      rintro rfl
      simp at h
  · rintro ⟨h1, h2⟩
    exact Nat.mul_pos h1 h2

/-- two products that fill a third -/
theorem fill_iff {n p q r k p' q' r' : Nat} (hn : 0 < n + p) (hk : 0 < k + p') :
    ((n + p) * (k + p') + (n + q) * (k + q') = (n + p + q + r) * (k + p' + q' + r') + n * k) ↔ (r = 0 ∧ r' = 0 ∧ (p = 0 ∨ q' = 0) ∧ (q = 0 ∨ p' = 0)) := by
  have e : (n + p + q + r) * (k + p' + q' + r') + n * k = ((n + p) * (k + p') + (n + q) * (k + q')) + ((n + p + q) * r' + p * q' + q * p' + r * (k + p' + q' + r')) := by
    simp only [Nat.add_mul, Nat.mul_add]
    omega
  rw [e]
  constructor
  · intro h
    have z : (n + p + q) * r' + p * q' + q * p' + r * (k + p' + q' + r') = 0 := by omega
    have z1 : (n + p + q) * r' = 0 := by omega
    have z2 : p * q' = 0 := by omega
    have z3 : q * p' = 0 := by omega
    have z4 : r * (k + p' + q' + r') = 0 := by omega
    refine ⟨?_, ?_, Nat.mul_eq_zero.mp z2, Nat.mul_eq_zero.mp z3⟩
    · rcases Nat.mul_eq_zero.mp z4 with h | h <;> omega
    · rcases Nat.mul_eq_zero.mp z1 with h | h <;> omega
  · rintro ⟨rfl, rfl, h1, h2⟩
    have z2 : p * q' = 0 := Nat.mul_eq_zero.mpr h1
    have z3 : q * p' = 0 := Nat.mul_eq_zero.mpr h2
    simp only [Nat.mul_zero, Nat.zero_mul]
    omega
end

-- PL2
section
abbrev shOf (X1 X2 Y1 Y2 A1 A2 B1 B2 : Nat) : List (Int × Int) := (grid X1 X2 Y1 Y2).filter fun p => decide (p ∈ grid A1 A2 B1 B2)

section
variable {cols rows : List Int} {x wd a c y ht b d : Int} {X1 X2 A1 A2 Y1 Y2 B1 B2 : Nat} {ns nm no : Nat}

theorem mem_sh {z : Int × Int} : z ∈ shOf X1 X2 Y1 Y2 A1 A2 B1 B2 ↔ ((2 * (X1 : Int) ≤ z.1 ∧ z.1 ≤ 2 * (X2 : Int)) ∧ (2 * (Y1 : Int) ≤ z.2 ∧ z.2 ≤ 2 * (Y2 : Int))) ∧ ((2 * (A1 : Int) ≤ z.1 ∧ z.1 ≤ 2 * (A2 : Int)) ∧ (2 * (B1 : Int) ≤ z.2 ∧ z.2 ≤ 2 * (B2 : Int))) := by
  simp only [shOf, List.mem_filter, decide_eq_true_eq, mem_grid]

theorem law_k1 (SX : Axis cols x wd a c X1 X2 A1 A2) (SY : Axis rows y ht b d Y1 Y2 B1 B2) (hs : ns = (shOf X1 X2 Y1 Y2 A1 A2 B1 B2).length) (ho : no = (grid A1 A2 B1 B2).length) :
    decide (y ≤ b ∧ x ≤ a ∧ b + d ≤ y + ht ∧ a + c ≤ x + wd) = (((ns : Nat) : Int) == ((no : Nat) : Int)) := by
  have u := ax1 SX.b4 SX.xx SX.aa
  have v := ax1 SY.b4 SY.xx SY.aa
  rw [Bool.eq_iff_iff, decide_eq_true_eq, beq_iff_eq, Int.natCast_inj, hs, ho, shared_len _ _ _ _ _ _ _ _ SX.b4 SY.b4 SX.xx SX.aa SY.xx SY.aa, grid_len, prod_eq u.1 v.1 u.2.2.1 v.2.2.1, ax2 SX.b4 SX.xx SX.aa, ax2 SY.b4 SY.xx SY.aa, SX.o1, SX.o4, SY.o1, SY.o4]
  exact ⟨fun ⟨h1, h2, h3, h4⟩ => ⟨⟨h2, h4⟩, h1, h3⟩, fun ⟨⟨h2, h4⟩, h1, h3⟩ => ⟨h1, h2, h3, h4⟩⟩
theorem law_k2 (SX : Axis cols x wd a c X1 X2 A1 A2) (SY : Axis rows y ht b d Y1 Y2 B1 B2) (hs : ns = (shOf X1 X2 Y1 Y2 A1 A2 B1 B2).length) (hm : nm = (grid X1 X2 Y1 Y2).length) :
    decide (b ≤ y ∧ a ≤ x ∧ y + ht ≤ b + d ∧ x + wd ≤ a + c) = (((ns : Nat) : Int) == ((nm : Nat) : Int)) := by
  have u := ax1 SX.b4 SX.xx SX.aa
  have v := ax1 SY.b4 SY.xx SY.aa
  rw [Bool.eq_iff_iff, decide_eq_true_eq, beq_iff_eq, Int.natCast_inj, hs, hm, shared_len _ _ _ _ _ _ _ _ SX.b4 SY.b4 SX.xx SX.aa SY.xx SY.aa, grid_len, prod_eq u.2.1 v.2.1 u.2.2.2 v.2.2.2, ax3 SX.b4 SX.xx SX.aa, ax3 SY.b4 SY.xx SY.aa, SX.o2, SX.o3, SY.o2, SY.o3]
  exact ⟨fun ⟨h1, h2, h3, h4⟩ => ⟨⟨h2, h4⟩, h1, h3⟩, fun ⟨⟨h2, h4⟩, h1, h3⟩ => ⟨h1, h2, h3, h4⟩⟩
theorem sh_ne (SX : Axis cols x wd a c X1 X2 A1 A2) (SY : Axis rows y ht b d Y1 Y2 B1 B2) : shOf X1 X2 Y1 Y2 A1 A2 B1 B2 ≠ [] ↔ ((X1 ≤ A2 ∧ A1 ≤ X2) ∧ (Y1 ≤ B2 ∧ B1 ≤ Y2)) := by
  rw [← List.length_pos_iff, shared_len _ _ _ _ _ _ _ _ SX.b4 SY.b4 SX.xx SX.aa SY.xx SY.aa, prod_pos, ax4 SX.b4 SX.xx SX.aa, ax4 SY.b4 SY.xx SY.aa]
theorem law_k3 (SX : Axis cols x wd a c X1 X2 A1 A2) (SY : Axis rows y ht b d Y1 Y2 B1 B2) : (y ≤ b + d ∧ b ≤ y + ht ∧ x ≤ a + c ∧ a ≤ x + wd) ↔ shOf X1 X2 Y1 Y2 A1 A2 B1 B2 ≠ [] := by
  rw [sh_ne SX SY, SX.o5, SX.o6, SY.o5, SY.o6]
  exact ⟨fun ⟨h1, h2, h3, h4⟩ => ⟨⟨h3, h4⟩, h1, h2⟩, fun ⟨⟨h3, h4⟩, h1, h2⟩ => ⟨h1, h2, h3, h4⟩⟩
theorem odd_iff {p : Int × Int} : odd2 p = true ↔ p.1.fmod 2 = 1 ∧ p.2.fmod 2 = 1 := by
  unfold odd2
  rw [decide_eq_true_eq]
theorem fmod2 (z : Int) : z.fmod 2 = z % 2 := Int.fmod_eq_emod_of_nonneg _ (by decide)
theorem fdiv2 (z : Int) : z.fdiv 2 = z / 2 := Int.fdiv_eq_ediv_of_nonneg _ (by decide)
theorem odd_btw {z : Int} {m n : Nat} (o : z % 2 = 1) (h : 2 * (m : Int) ≤ z) (h' : z ≤ 2 * (n : Int)) : m < n := by omega
theorem dbl {m n : Nat} (h : m ≤ n) : 2 * (m : Int) ≤ 2 * (n : Int) := by omega
theorem dblo {m n : Nat} (h : m ≤ n) : 2 * (m : Int) ≤ 2 * (n : Int) + 1 := by omega
theorem dbls {m n : Nat} (h : m < n) : 2 * (m : Int) + 1 ≤ 2 * (n : Int) := by omega
theorem odd_one (m : Nat) : (2 * (m : Int) + 1) % 2 = 1 := by omega
theorem strict {w : Int} {m n : Nat} (h : m ≤ n) (s : w = 0 ↔ m = n) (p : 0 < w) : m < n := Nat.lt_of_le_of_ne h fun e => by
  have := s.mpr e
  omega
theorem odd_in (xx : X1 < X2) (aa : A1 < A2) (h : X1 < A2 ∧ A1 < X2) : (2 * (X1 : Int) ≤ 2 * ((max X1 A1 : Nat) : Int) + 1 ∧ 2 * ((max X1 A1 : Nat) : Int) + 1 ≤ 2 * (X2 : Int)) ∧ (2 * (A1 : Int) ≤ 2 * ((max X1 A1 : Nat) : Int) + 1 ∧ 2 * ((max X1 A1 : Nat) : Int) + 1 ≤ 2 * (A2 : Int)) :=
  ⟨⟨dblo (Nat.le_max_left ..), dbls (Nat.max_lt.mpr ⟨xx, h.2⟩)⟩, dblo (Nat.le_max_right ..), dbls (Nat.max_lt.mpr ⟨h.1, aa⟩)⟩
theorem lo_in (xx : X1 ≤ X2) (aa : A1 ≤ A2) (h : X1 ≤ A2 ∧ A1 ≤ X2) : (2 * (X1 : Int) ≤ 2 * ((max X1 A1 : Nat) : Int) ∧ 2 * ((max X1 A1 : Nat) : Int) ≤ 2 * (X2 : Int)) ∧ (2 * (A1 : Int) ≤ 2 * ((max X1 A1 : Nat) : Int) ∧ 2 * ((max X1 A1 : Nat) : Int) ≤ 2 * (A2 : Int)) :=
  ⟨⟨dbl (Nat.le_max_left ..), dbl (Nat.max_le.mpr ⟨xx, h.2⟩)⟩, dbl (Nat.le_max_right ..), dbl (Nat.max_le.mpr ⟨h.1, aa⟩)⟩
theorem hi_in (xx : X1 ≤ X2) (aa : A1 ≤ A2) (h : X1 ≤ A2 ∧ A1 ≤ X2) : (2 * (X1 : Int) ≤ 2 * ((min X2 A2 : Nat) : Int) ∧ 2 * ((min X2 A2 : Nat) : Int) ≤ 2 * (X2 : Int)) ∧ (2 * (A1 : Int) ≤ 2 * ((min X2 A2 : Nat) : Int) ∧ 2 * ((min X2 A2 : Nat) : Int) ≤ 2 * (A2 : Int)) :=
  ⟨⟨dbl (Nat.le_min.mpr ⟨xx, h.1⟩), dbl (Nat.min_le_left ..)⟩, dbl (Nat.le_min.mpr ⟨h.2, aa⟩), dbl (Nat.min_le_right ..)⟩
theorem inn_ne (xx : X1 < X2) (aa : A1 < A2) (yy : Y1 < Y2) (bb : B1 < B2) : (shOf X1 X2 Y1 Y2 A1 A2 B1 B2).filter odd2 ≠ [] ↔ ((X1 < A2 ∧ A1 < X2) ∧ (Y1 < B2 ∧ B1 < Y2)) := by
  constructor
  · intro h
    obtain ⟨z, hz⟩ := List.exists_mem_of_ne_nil _ h
    obtain ⟨h1, h2⟩ := List.mem_filter.mp hz
    obtain ⟨o1, o2⟩ := odd_iff.mp h2
    rw [fmod2] at o1 o2
    obtain ⟨⟨⟨k1, k2⟩, k3, k4⟩, ⟨k5, k6⟩, k7, k8⟩ := mem_sh.mp h1
    exact ⟨⟨odd_btw o1 k1 k6, odd_btw o1 k5 k2⟩, odd_btw o2 k3 k8, odd_btw o2 k7 k4⟩
  · rintro ⟨h1, h2⟩
    have u := odd_in xx aa h1
    have v := odd_in yy bb h2
    have hz : ((2 * (max X1 A1 : Nat) + 1 : Int), (2 * (max Y1 B1 : Nat) + 1 : Int)) ∈ (shOf X1 X2 Y1 Y2 A1 A2 B1 B2).filter odd2 := by
      refine List.mem_filter.mpr ⟨mem_sh.mpr ⟨⟨u.1, v.1⟩, u.2, v.2⟩, odd_iff.mpr ?_⟩
      rw [fmod2, fmod2]
      exact ⟨odd_one _, odd_one _⟩
    exact List.ne_nil_of_mem hz
theorem law_k4 (SX : Axis cols x wd a c X1 X2 A1 A2) (SY : Axis rows y ht b d Y1 Y2 B1 B2) (p1 : 0 < wd) (p2 : 0 < ht) (p3 : 0 < c) (p4 : 0 < d) : (y < b + d ∧ b < y + ht ∧ x < a + c ∧ a < x + wd) ↔ (shOf X1 X2 Y1 Y2 A1 A2 B1 B2).filter odd2 ≠ [] := by
  rw [inn_ne (strict SX.xx SX.s1 p1) (strict SX.aa SX.s2 p3) (strict SY.xx SY.s1 p2) (strict SY.aa SY.s2 p4), SX.t1, SX.t2, SY.t1, SY.t2]
  exact ⟨fun ⟨h1, h2, h3, h4⟩ => ⟨⟨h3, h4⟩, h1, h2⟩, fun ⟨⟨h3, h4⟩, h1, h2⟩ => ⟨h1, h2, h3, h4⟩⟩

/-! what is due -/
theorem btw {z : Int} (h1 : 2 * (X1 : Int) ≤ z ∧ z ≤ 2 * (X2 : Int)) (h2 : 2 * (A1 : Int) ≤ z ∧ z ≤ 2 * (A2 : Int)) : 2 * ((max X1 A1 : Nat) : Int) ≤ z ∧ z ≤ 2 * ((min X2 A2 : Nat) : Int) := by
  omega
theorem fst_sh {M : Int} (hm : M ∈ (shOf X1 X2 Y1 Y2 A1 A2 B1 B2).map Prod.fst) :
    2 * ((max X1 A1 : Nat) : Int) ≤ M ∧ M ≤ 2 * ((min X2 A2 : Nat) : Int) := by
  obtain ⟨z, hz, rfl⟩ := List.mem_map.mp hm
  have h := mem_sh.mp hz
  exact btw h.1.1 h.2.1
theorem snd_sh {M : Int} (hm : M ∈ (shOf X1 X2 Y1 Y2 A1 A2 B1 B2).map Prod.snd) :
    2 * ((max Y1 B1 : Nat) : Int) ≤ M ∧ M ≤ 2 * ((min Y2 B2 : Nat) : Int) := by
  obtain ⟨z, hz, rfl⟩ := List.mem_map.mp hm
  have h := mem_sh.mp hz
  exact btw h.1.2 h.2.2
theorem in_sh (SX : Axis cols x wd a c X1 X2 A1 A2) (SY : Axis rows y ht b d Y1 Y2 B1 B2) (hne : shOf X1 X2 Y1 Y2 A1 A2 B1 B2 ≠ []) :
    (2 * ((max X1 A1 : Nat) : Int), 2 * ((max Y1 B1 : Nat) : Int)) ∈ shOf X1 X2 Y1 Y2 A1 A2 B1 B2 ∧ (2 * ((min X2 A2 : Nat) : Int), 2 * ((min Y2 B2 : Nat) : Int)) ∈ shOf X1 X2 Y1 Y2 A1 A2 B1 B2 := by
  have h := (sh_ne SX SY).mp hne
  have u := lo_in SX.xx SX.aa h.1
  have v := lo_in SY.xx SY.aa h.2
  have u' := hi_in SX.xx SX.aa h.1
  have v' := hi_in SY.xx SY.aa h.2
  exact ⟨mem_sh.mpr ⟨⟨u.1, v.1⟩, u.2, v.2⟩, mem_sh.mpr ⟨⟨u'.1, v'.1⟩, u'.2, v'.2⟩⟩
theorem half (k : Nat) : ((2 * (k : Int)).fdiv 2).toNat = k := by
  rw [fdiv2]
  omega
theorem half_in {z : Int} {n : Nat} (e : n = max X2 A2 + 1) (h : 2 * ((max X1 A1 : Nat) : Int) ≤ z ∧ z ≤ 2 * ((min X2 A2 : Nat) : Int)) : 0 ≤ z.fdiv 2 ∧ z.fdiv 2 < (n : Int) := by
  rw [fdiv2]
  omega
theorem law_q1 (SX : Axis cols x wd a c X1 X2 A1 A2) (SY : Axis rows y ht b d Y1 Y2 B1 B2) (hne : shOf X1 X2 Y1 Y2 A1 A2 B1 B2 ≠ []) (M : Int) (hl : ∀ z ∈ (shOf X1 X2 Y1 Y2 A1 A2 B1 B2).map Prod.fst, M ≤ z) (hm : M ∈ (shOf X1 X2 Y1 Y2 A1 A2 B1 B2).map Prod.fst) : cols.getD (M.fdiv 2).toNat 0 = max x a := by
  have e : M = 2 * ((max X1 A1 : Nat) : Int) := Int.le_antisymm (hl _ (List.mem_map.mpr ⟨_, (in_sh SX SY hne).1, rfl⟩)) (fst_sh hm).1
  rw [e, half, SX.g1]
theorem law_q2 (SX : Axis cols x wd a c X1 X2 A1 A2) (SY : Axis rows y ht b d Y1 Y2 B1 B2) (hne : shOf X1 X2 Y1 Y2 A1 A2 B1 B2 ≠ []) (M : Int) (hl : ∀ z ∈ (shOf X1 X2 Y1 Y2 A1 A2 B1 B2).map Prod.snd, M ≤ z) (hm : M ∈ (shOf X1 X2 Y1 Y2 A1 A2 B1 B2).map Prod.snd) : rows.getD (M.fdiv 2).toNat 0 = max y b := by
  have e : M = 2 * ((max Y1 B1 : Nat) : Int) := Int.le_antisymm (hl _ (List.mem_map.mpr ⟨_, (in_sh SX SY hne).1, rfl⟩)) (snd_sh hm).1
  rw [e, half, SY.g1]
theorem law_q3 (SX : Axis cols x wd a c X1 X2 A1 A2) (SY : Axis rows y ht b d Y1 Y2 B1 B2) (hne : shOf X1 X2 Y1 Y2 A1 A2 B1 B2 ≠ []) (M : Int) (hl : ∀ z ∈ (shOf X1 X2 Y1 Y2 A1 A2 B1 B2).map Prod.fst, z ≤ M) (hm : M ∈ (shOf X1 X2 Y1 Y2 A1 A2 B1 B2).map Prod.fst) : cols.getD (M.fdiv 2).toNat 0 = min (x + wd) (a + c) := by
  have e : M = 2 * ((min X2 A2 : Nat) : Int) := Int.le_antisymm (fst_sh hm).2 (hl _ (List.mem_map.mpr ⟨_, (in_sh SX SY hne).2, rfl⟩))
  rw [e, half, SX.g2]
theorem law_q4 (SX : Axis cols x wd a c X1 X2 A1 A2) (SY : Axis rows y ht b d Y1 Y2 B1 B2) (hne : shOf X1 X2 Y1 Y2 A1 A2 B1 B2 ≠ []) (M : Int) (hl : ∀ z ∈ (shOf X1 X2 Y1 Y2 A1 A2 B1 B2).map Prod.snd, z ≤ M) (hm : M ∈ (shOf X1 X2 Y1 Y2 A1 A2 B1 B2).map Prod.snd) : rows.getD (M.fdiv 2).toNat 0 = min (y + ht) (b + d) := by
  have e : M = 2 * ((min Y2 B2 : Nat) : Int) := Int.le_antisymm (snd_sh hm).2 (hl _ (List.mem_map.mpr ⟨_, (in_sh SX SY hne).2, rfl⟩))
  rw [e, half, SY.g2]
theorem law_b1 (SX : Axis cols x wd a c X1 X2 A1 A2) (hne : shOf X1 X2 Y1 Y2 A1 A2 B1 B2 ≠ []) : ∀ z ∈ (shOf X1 X2 Y1 Y2 A1 A2 B1 B2).map Prod.fst, 0 ≤ z.fdiv 2 ∧ z.fdiv 2 < (cols.length : Int) :=
  fun z hz => half_in SX.hi (fst_sh hz)
theorem law_b2 (SY : Axis rows y ht b d Y1 Y2 B1 B2) (hne : shOf X1 X2 Y1 Y2 A1 A2 B1 B2 ≠ []) : ∀ z ∈ (shOf X1 X2 Y1 Y2 A1 A2 B1 B2).map Prod.snd, 0 ≤ z.fdiv 2 ∧ z.fdiv 2 < (rows.length : Int) :=
  fun z hz => half_in SY.hi (snd_sh hz)

/-! when the two together are a rectangle -/
theorem eq_parts {x wd a c : Int} : ((a ≤ x ∧ x + wd ≤ a + c) ∧ (x ≤ a ∧ a + c ≤ x + wd)) ↔ (x = a ∧ wd = c) := by
  constructor
  · rintro ⟨⟨h1, h2⟩, h3, h4⟩
    omega
  · rintro ⟨rfl, rfl⟩
    omega
/-- the shape of the law, on propositions: p, q, r of the first axis, p', q', r' of the second -/
theorem shape {p q r p' q' r' e e' A B I : Prop} (he : p ∧ q ↔ e) (he' : p' ∧ q' ↔ e') (hA : A ↔ q' ∧ q) (hB : B ↔ p' ∧ p) (hI : I ↔ r' ∧ r) (hr1 : p → r) (hr2 : q → r) (hr3 : p' → r') (hr4 : q' → r') :
    (r ∧ r' ∧ (p ∨ q') ∧ (q ∨ p')) ↔ (A ∨ B ∨ (I ∧ (e ∨ e'))) := by
  rw [hA, hB, hI, ← he, ← he']
  constructor
  · rintro ⟨h1, h2, h3 | h3, h4 | h4⟩
    · exact .inr (.inr ⟨⟨h2, h1⟩, .inl ⟨h3, h4⟩⟩)
    · exact .inr (.inl ⟨h4, h3⟩)
    · exact .inl ⟨h3, h4⟩
    · exact .inr (.inr ⟨⟨h2, h1⟩, .inr ⟨h4, h3⟩⟩)
  · rintro (⟨h1, h2⟩ | ⟨h1, h2⟩ | ⟨⟨h1, h2⟩, ⟨h3, h4⟩ | ⟨h3, h4⟩⟩)
    · exact ⟨hr2 h2, hr4 h1, .inr h1, .inl h2⟩
    · exact ⟨hr1 h2, hr3 h1, .inl h2, .inr h1⟩
    · exact ⟨h2, h1, .inl h3, .inl h4⟩
    · exact ⟨h2, h1, .inr h4, .inr h3⟩
theorem sum_nat {u1 u2 u3 u4 : Nat} : ((u1 : Int) + (u2 : Int) - (u3 : Int) = (u4 : Int)) ↔ (u1 + u2 = u4 + u3) := by omega
theorem odd_nat {n : Nat} : (2 * ((n + 1 : Nat) : Int) - 1) = ((2 * (n + 1) - 1 : Nat) : Int) := by omega
theorem cont1 {x wd a c : Int} (z : 0 ≤ wd) (h : a ≤ x ∧ x + wd ≤ a + c) : x ≤ a + c ∧ a ≤ x + wd := by omega
theorem cont2 {x wd a c : Int} (z : 0 ≤ c) (h : x ≤ a ∧ a + c ≤ x + wd) : x ≤ a + c ∧ a ≤ x + wd := by omega
theorem law_whole (z1 : 0 ≤ wd) (z2 : 0 ≤ ht) (z3 : 0 ≤ c) (z4 : 0 ≤ d) (SX : Axis cols x wd a c X1 X2 A1 A2) (SY : Axis rows y ht b d Y1 Y2 B1 B2) (hs : ns = (shOf X1 X2 Y1 Y2 A1 A2 B1 B2).length) (hm : nm = (grid X1 X2 Y1 Y2).length) (ho : no = (grid A1 A2 B1 B2).length) :
    ((((nm : Nat) : Int) + ((no : Nat) : Int) - ((ns : Nat) : Int)) == (2 * ((cols.length : Nat) : Int) - 1) * (2 * ((rows.length : Nat) : Int) - 1)) = true ↔
      ((y ≤ b ∧ x ≤ a ∧ b + d ≤ y + ht ∧ a + c ≤ x + wd) ∨ (b ≤ y ∧ a ≤ x ∧ y + ht ≤ b + d ∧ x + wd ≤ a + c) ∨ ((y ≤ b + d ∧ b ≤ y + ht ∧ x ≤ a + c ∧ a ≤ x + wd) ∧ ((x = a ∧ wd = c) ∨ (y = b ∧ ht = d)))) := by
  obtain ⟨p, q, r, e1, e2, e3, e4, c1, c2, c5⟩ := parts SX.b4 SX.xx SX.aa SX.lo
  obtain ⟨p', q', r', f1, f2, f3, f4, c3, c4, c6⟩ := parts SY.b4 SY.xx SY.aa SY.lo
  rw [beq_iff_eq, hs, hm, ho, shared_len _ _ _ _ _ _ _ _ SX.b4 SY.b4 SX.xx SX.aa SY.xx SY.aa, grid_len, grid_len, SX.hi, SY.hi, odd_nat, odd_nat, ← Int.natCast_mul, sum_nat, e1, e2, e3, f1, f2, f3, fill_iff e4 f4, c1, c2, c3, c4, c5, c6,
    ← SX.o1, ← SX.o2, ← SX.o3, ← SX.o4, ← SX.o5, ← SX.o6, ← SY.o1, ← SY.o2, ← SY.o3, ← SY.o4, ← SY.o5, ← SY.o6]
  exact shape eq_parts eq_parts
    ⟨fun ⟨h1, h2, h3, h4⟩ => ⟨⟨h1, h3⟩, h2, h4⟩, fun ⟨⟨h1, h3⟩, h2, h4⟩ => ⟨h1, h2, h3, h4⟩⟩
    ⟨fun ⟨h1, h2, h3, h4⟩ => ⟨⟨h1, h3⟩, h2, h4⟩, fun ⟨⟨h1, h3⟩, h2, h4⟩ => ⟨h1, h2, h3, h4⟩⟩
    ⟨fun ⟨h1, h2, h3, h4⟩ => ⟨⟨h1, h2⟩, h3, h4⟩, fun ⟨⟨h1, h2⟩, h3, h4⟩ => ⟨h1, h2, h3, h4⟩⟩
    (cont1 z1) (cont2 z3) (cont1 z2) (cont2 z4)
end
end

-- P31
section
section
variable {w : World} {dp un : Nat} {gd : Option (List Code)} {cn : Str} {cs : Scope} {L aa c0 l : Addr} {ccd : Value} {outer : List Env} {A₀ : Around} {base h₀ : Heap} {m0 : Str → Option Value} {mean : ExcName → Option Value} {mg mb : Str → Option Value} {s : Shared} {E : Value → Shared → Prop} {st : List Stmt} {Q : Flow → Shared → Prop}

theorem fin22 {x wd y ht a c b d : Int} {tx tw ty th ta tc tb td : Tok} {lc lr one done two dtwo : Addr} {cvs rvs : List Value} {nc nr : Nat} {cols rows : List Int} {ka kb kc kd ke ja jb jc jd je : Tok} {lm lo : Addr} {om oo oc : Obj} {mvs ovs : Array Value} {nm no : Nat} {lsh : Addr} {osh : Obj} {svs : Array Value} {nsh : Nat} {lin : Addr} {oin : Obj} {ivs : Array Value} {nin : Nat} {dv : Value} {lf lw : Option Value} {wh : Bool} {ux uy uw uh : Tok} (hcs : cs = lawS) (hd : dp ≤ 310) (hu : un ≤ 1000) (hb : Below A₀ base outer h₀) (X : (Mine.K0 w.params).In h₀) (T : Top Mine.Vw (looseW Mine.Vw [Str.ofString "Rectangle"]) mean mg mb h₀) (F : Fr h₀ L s.heap (fun q => if q = Str.ofString "whole" then some (.bool wh) else if q = Str.ofString "due" then some dv else if q = Str.ofString "left" then lf else if q = Str.ofString "low" then lw else if q = Str.ofString "inner" then some (.ref lin) else if q = Str.ofString "shared" then some (.ref lsh) else if q = Str.ofString "mine" then some (.ref lm) else if q = Str.ofString "two" then some (.ref two) else if q = Str.ofString "one" then some (.ref one) else if q = Str.ofString "rows" then some (.ref lr) else if q = Str.ofString "columns" then some (.ref lc) else if q = Str.ofString "d" then some (.int d td) else if q = Str.ofString "b" then some (.int b tb) else if q = Str.ofString "c" then some (.int c tc) else if q = Str.ofString "a" then some (.int a ta) else if q = Str.ofString "h" then some (.int ht th) else if q = Str.ofString "y" then some (.int y ty) else if q = Str.ofString "w" then some (.int wd tw) else if q = Str.ofString "x" then some (.int x tx) else if q = Str.ofString "script" then some (.ref l) else m0 q)) (N : News h₀ L s.heap [(lin, oin), (lsh, osh), (lm, om), (lo, oo), (one, instObj 203 done), (done, rd w.params ka kb kc kd ke x y wd ht ux uy uw uh), (two, instObj 203 dtwo), (dtwo, rd w.params ja jb jc jd je a b c d ta tb tc td), (lc, listOf cvs.toArray nc), (lr, listOf rvs.toArray nr), (c0, oc)]) (c1 : om.cls = .type "list") (d1 : om.data = .seq mvs nm) (c2 : oo.cls = .type "list") (d2 : oo.data = .seq ovs no) (c3 : osh.cls = .type "list") (e3 : osh.data = .seq svs nsh) (c4 : oin.cls = .type "list") (e4 : oin.data = .seq ivs nin) (d3 : oc.data = .cell (some (.ref lo))) (s1 : mvs.size ≤ 81) (s2 : ovs.size ≤ 81) (s3 : svs.size ≤ 81) (z1 : 0 ≤ wd) (z2 : 0 ≤ ht) (z3 : 0 ≤ c) (z4 : 0 ≤ d) (hG : AllBare s.gens) (hm : IntMulOk wd ht) (hm2 : IntMulOk c d)
    (hM : (wh = true ∧ decide (y ≤ b ∧ x ≤ a ∧ b + d ≤ y + ht ∧ a + c ≤ x + wd) = true ∧ decide (b ≤ y ∧ a ≤ x ∧ y + ht ≤ b + d ∧ x + wd ≤ a + c) = decide (x = a ∧ y = b ∧ wd = c ∧ ht = d)) ∨
      (wh = false ∧ decide (y ≤ b ∧ x ≤ a ∧ b + d ≤ y + ht ∧ a + c ≤ x + wd) = (((svs.size : Nat) : Int) == ((ovs.size : Nat) : Int)) ∧ decide (b ≤ y ∧ a ≤ x ∧ y + ht ≤ b + d ∧ x + wd ≤ a + c) = (((svs.size : Nat) : Int) == ((mvs.size : Nat) : Int)) ∧
        ((x = a ∧ y = b ∧ wd = c ∧ ht = d) → (((svs.size : Nat) : Int) == ((mvs.size : Nat) : Int)) = true)))
    (hk : ∀ (h' : Heap) (tk' : Nat) (g' : Array GenState) (m' : Str → Option Value), AllBare g' → Fr h₀ L h' m' → Q (.ret (.bool true)) { s with heap := h', toks := tk', gens := g' }) :
    wpAny (model PySem.Challenge.rw_jb0029_01.row.prog w) (ktrTop dp un gd cn cs L aa ccd [(Str.ofString "other", c0)] outer) (execs  (lawB.drop 22)  (envX cn cs L aa ccd [(Str.ofString "other", c0)])) Q E s := by
  refine chunk 22 1 23 rfl (chunkK22 (cols := cols) (rows := rows) (mvs := mvs) (ovs := ovs) (nm := nm) (no := no) (svs := svs) (nsh := nsh) (ivs := ivs) (nin := nin) rfl hcs hd hu hb X T F N d3 hG fun h1 tk1 g1 hG1 F1 N1 => ?_)
  refine chunk 23 1 24 rfl (chunkL23 (cols := cols) (rows := rows) (mvs := mvs) (ovs := ovs) (nm := nm) (no := no) (svs := svs) (nsh := nsh) (ivs := ivs) (nin := nin) rfl hcs hd hu hb X T F1 N1 hm hm2 fun h2 tk2 F2 N2 => ?_)
  rcases hM with ⟨e, k1, k2⟩ | ⟨e, k1, k2, k3⟩
  · refine chunk 24 1 25 rfl (chunkM24t (cols := cols) (rows := rows) (mvs := mvs) (ovs := ovs) (nm := nm) (no := no) (svs := svs) (nsh := nsh) (ivs := ivs) (nin := nin) rfl hcs hd hu hb X T F2 N2 c1 d1 c2 d2 c3 e3 c4 e4 d3 s1 s2 s3 z1 z2 z3 z4 e k1 k2 fun h3 tk3 F3 N3 => ?_)
    exact chunk 25 1 26 rfl (chunkN25 (cols := cols) (rows := rows) (mvs := mvs) (ovs := ovs) (nm := nm) (no := no) (svs := svs) (nsh := nsh) (ivs := ivs) (nin := nin) rfl hcs hd hu hb X T F3 N3 fun h4 tk4 F4 => hk h4 tk4 g1 _ hG1 F4)
  · refine chunk 24 1 25 rfl (chunkM24f (cols := cols) (rows := rows) (mvs := mvs) (ovs := ovs) (nm := nm) (no := no) (svs := svs) (nsh := nsh) (ivs := ivs) (nin := nin) rfl hcs hd hu hb X T F2 N2 c1 d1 c2 d2 c3 e3 c4 e4 d3 s1 s2 s3 z1 z2 z3 z4 e k1 k2 k3 fun h3 tk3 F3 N3 => ?_)
    exact chunk 25 1 26 rfl (chunkN25 (cols := cols) (rows := rows) (mvs := mvs) (ovs := ovs) (nm := nm) (no := no) (svs := svs) (nsh := nsh) (ivs := ivs) (nin := nin) rfl hcs hd hu hb X T F3 N3 fun h4 tk4 F4 => hk h4 tk4 g1 _ hG1 F4)

theorem bd_mul {B : Nat} (hB : MulB B) {p q : Int} (h1 : Bd (48 * B) p) (h2 : Bd (48 * B) q) : IntMulOk p q := by
  refine hB p q ?_ ?_
  · unfold Bd at h1
    omega
  · unfold Bd at h2
    omega
theorem small_mul {p q : Int} (h1 : 0 ≤ p) (h2 : p ≤ 100) : IntMulOk p q := by
  refine IntMulOk.of_left (intBits_le_iff.mpr ?_)
  have : (128 : Nat) ≤ 2 ^ 64 := by decide
  omega
theorem Bd.mono {B C : Nat} {p : Int} (h : Bd B p) (hBC : B ≤ C) : Bd C p := by
  unfold Bd at *
  omega

theorem b48 (B : Nat) : 4 * B ≤ 48 * B := by omega
theorem span_pos {x wd a c w8 : Int} (q : w8 = max (x + wd) (a + c) - min x a) (z : 0 ≤ wd) : 0 ≤ w8 := by omega
theorem span_bd {B : Nat} {x wd a c w8 : Int} (q : w8 = max (x + wd) (a + c) - min x a) (b1 : Bd (4 * B) x) (b3 : Bd (4 * B) wd) (b5 : Bd (4 * B) a) (b7 : Bd (4 * B) c) : Bd (48 * B) w8 := by
  unfold Bd at *
  omega
theorem span_in {x wd a c x8 w8 : Int} (q1 : x8 = min x a) (q : w8 = max (x + wd) (a + c) - min x a) : x8 ≤ a ∧ a + c ≤ x8 + w8 := by omega
theorem span_eq {x8 a w8 c : Int} (u : x8 ≤ a ∧ a + c ≤ x8 + w8) : (a ≤ x8 ∧ x8 + w8 ≤ a + c) ↔ (x8 = a ∧ w8 = c) := by
  constructor
  · intro h
    omega
  · rintro ⟨rfl, rfl⟩
    exact ⟨Int.le_refl _, Int.le_refl _⟩
theorem span_same {x8 a w8 c y8 b h8 d : Int} (u : x8 ≤ a ∧ a + c ≤ x8 + w8) (v : y8 ≤ b ∧ b + d ≤ y8 + h8) : (b ≤ y8 ∧ a ≤ x8 ∧ y8 + h8 ≤ b + d ∧ x8 + w8 ≤ a + c) ↔ (x8 = a ∧ y8 = b ∧ w8 = c ∧ h8 = d) := by
  constructor
  · rintro ⟨h1, h2, h3, h4⟩
    have p := (span_eq u).mp ⟨h2, h4⟩
    have q := (span_eq v).mp ⟨h1, h3⟩
    exact ⟨p.1, q.1, p.2, q.2⟩
  · rintro ⟨rfl, rfl, rfl, rfl⟩
    exact ⟨Int.le_refl _, Int.le_refl _, Int.le_refl _, Int.le_refl _⟩
theorem same_le {x wd a c y ht b d : Int} : (x = a ∧ y = b ∧ wd = c ∧ ht = d) → (b ≤ y ∧ a ≤ x ∧ y + ht ≤ b + d ∧ x + wd ≤ a + c) := by
  rintro ⟨rfl, rfl, rfl, rfl⟩
  exact ⟨Int.le_refl _, Int.le_refl _, Int.le_refl _, Int.le_refl _⟩

theorem fin19 {x wd y ht a c b d : Int} {tx tw ty th ta tc tb td : Tok} {lc lr one done two dtwo : Addr} {cvs rvs : List Value} {nc nr : Nat} {cols rows : List Int} {ka kb kc kd ke ja jb jc jd je : Tok} {lm lo : Addr} {om oo oc : Obj} {mvs ovs : Array Value} {nm no : Nat} {lsh : Addr} {osh : Obj} {svs : Array Value} {nsh : Nat} {lin : Addr} {oin : Obj} {ivs : Array Value} {nin : Nat} {dv : Value} {lf lw : Option Value} {imm : List (Addr × Obj)} {sh inn : List (Int × Int)} {B : Nat} {X1 X2 A1 A2 Y1 Y2 B1 B2 : Nat} (hcs : cs = lawS) (hd : dp ≤ 310) (hu : un ≤ 1000) (hb : Below A₀ base outer h₀) (X : (Mine.K0 w.params).In h₀) (T : Top Mine.Vw (looseW Mine.Vw [Str.ofString "Rectangle"]) mean mg mb h₀) (F : Fr h₀ L s.heap (fun q => if q = Str.ofString "due" then some dv else if q = Str.ofString "left" then lf else if q = Str.ofString "low" then lw else if q = Str.ofString "inner" then some (.ref lin) else if q = Str.ofString "shared" then some (.ref lsh) else if q = Str.ofString "mine" then some (.ref lm) else if q = Str.ofString "two" then some (.ref two) else if q = Str.ofString "one" then some (.ref one) else if q = Str.ofString "rows" then some (.ref lr) else if q = Str.ofString "columns" then some (.ref lc) else if q = Str.ofString "d" then some (.int d td) else if q = Str.ofString "b" then some (.int b tb) else if q = Str.ofString "c" then some (.int c tc) else if q = Str.ofString "a" then some (.int a ta) else if q = Str.ofString "h" then some (.int ht th) else if q = Str.ofString "y" then some (.int y ty) else if q = Str.ofString "w" then some (.int wd tw) else if q = Str.ofString "x" then some (.int x tx) else if q = Str.ofString "script" then some (.ref l) else m0 q)) (N : News h₀ L s.heap ((lin, oin) :: (lsh, osh) :: (lm, om) :: (lo, oo) :: (one, instObj 203 done) :: (done, rd w.params ka kb kc kd ke x y wd ht tx ty tw th) :: (two, instObj 203 dtwo) :: (dtwo, rd w.params ja jb jc jd je a b c d ta tb tc td) :: (lc, listOf cvs.toArray nc) :: (lr, listOf rvs.toArray nr) :: (c0, oc) :: imm)) (c1 : om.cls = .type "list") (d1 : om.data = .seq mvs nm) (c2 : oo.cls = .type "list") (d2 : oo.data = .seq ovs no) (c3 : osh.cls = .type "list") (e3 : osh.data = .seq svs nsh) (c4 : oin.cls = .type "list") (e4 : oin.data = .seq ivs nin) (d3 : oc.data = .cell (some (.ref lo))) (PS : Paired (PtS h₀ imm) svs.toList sh) (PI : Paired (PtS h₀ imm) ivs.toList inn) (s1 : mvs.size ≤ 81) (s2 : ovs.size ≤ 81) (s3 : svs.size ≤ 81) (z1 : 0 ≤ wd) (z2 : 0 ≤ ht) (z3 : 0 ≤ c) (z4 : 0 ≤ d) (hG : AllBare s.gens) (hdd : done ≠ dtwo) (hB : MulB B)
    (SX : Axis cols x wd a c X1 X2 A1 A2) (SY : Axis rows y ht b d Y1 Y2 B1 B2) (hs : svs.size = (shOf X1 X2 Y1 Y2 A1 A2 B1 B2).length) (hm : mvs.size = (grid X1 X2 Y1 Y2).length) (ho : ovs.size = (grid A1 A2 B1 B2).length)
    (i1 : IntsAre cvs cols) (i2 : IntsAre rvs rows) (n1 : cols.length ≤ 4) (n2 : rows.length ≤ 4)
    (b1 : Bd (4 * B) x) (b2 : Bd (4 * B) y) (b3 : Bd (4 * B) wd) (b4 : Bd (4 * B) ht) (b5 : Bd (4 * B) a) (b6 : Bd (4 * B) b) (b7 : Bd (4 * B) c) (b8 : Bd (4 * B) d)
    (hk : ∀ (h' : Heap) (tk' : Nat) (g' : Array GenState) (m' : Str → Option Value), AllBare g' → Fr h₀ L h' m' → Q (.ret (.bool true)) { s with heap := h', toks := tk', gens := g' }) :
    wpAny (model PySem.Challenge.rw_jb0029_01.row.prog w) (ktrTop dp un gd cn cs L aa ccd [(Str.ofString "other", c0)] outer) (execs  (lawB.drop 19)  (envX cn cs L aa ccd [(Str.ofString "other", c0)])) Q E s := by
  have ec : cvs.toArray.size = cols.length := by simpa using i1.length
  have er : rvs.toArray.size = rows.length := by simpa using i2.length
  have pc := SX.hi
  have pr := SY.hi
  have lc0 : 0 < (cols.length : Int) := by omega
  have lr0 : 0 < (rows.length : Int) := by omega
  refine chunk 19 1 20 rfl (chunkH19 (cols := cols) (rows := rows) (mvs := mvs) (ovs := ovs) (nm := nm) (no := no) (svs := svs) (nsh := nsh) (ivs := ivs) (nin := nin) rfl hcs hd hu hb X T F N c1 d1 c2 d2 c3 e3 c4 e4 d3 PS PI s1 s2 s3 z1 z2 z3 z4 (by omega) (by omega) (small_mul (by decide) (by decide)) (small_mul (by decide) (by decide)) (small_mul (by omega) (by omega)) fun wh h1 tk1 hwh F1 N1 => ?_)
  have N2 : News h₀ L h1 [(lin, oin), (lsh, osh), (lm, om), (lo, oo), (one, instObj 203 done), (done, rd w.params ka kb kc kd ke x y wd ht tx ty tw th), (two, instObj 203 dtwo), (dtwo, rd w.params ja jb jc jd je a b c d ta tb tc td), (lc, listOf cvs.toArray nc), (lr, listOf rvs.toArray nr), (c0, oc)] := newsSub N1 (by
    intro p hp
    simp only [List.mem_cons, List.not_mem_nil, or_false] at hp ⊢
    rcases hp with h | h | h | h | h | h | h | h | h | h | h <;> simp only [h, true_or, or_true])
  have hW := law_whole z1 z2 z3 z4 SX SY hs hm ho
  rw [← ec, ← er, ← hwh] at hW
  cases e : wh with
  | true =>
    have kj := hW.mp e
    subst e
    refine chunk 20 1 21 rfl (chunkI20t (cols := cols) (rows := rows) (mvs := mvs) (ovs := ovs) (nm := nm) (no := no) (svs := svs) (nsh := nsh) (ivs := ivs) (nin := nin) rfl hcs hd hu hb X T F1 N2 c1 d1 c2 d2 c3 e3 c4 e4 d3 s1 s2 s3 z1 z2 z3 z4 hdd (Ne.symm hdd) rfl kj hG fun x8 y8 w8 h8 e1 e2 e5 e6 h2 tk2 g2 q1 q2 q3 q4 hG2 F2 N3 => ?_)
    refine chunk 21 1 22 rfl (chunkJ21t (cols := cols) (rows := rows) (mvs := mvs) (ovs := ovs) (nm := nm) (no := no) (svs := svs) (nsh := nsh) (ivs := ivs) (nin := nin) rfl hcs hd hu hb X T F2 N3 c1 d1 c2 d2 c3 e3 c4 e4 d3 s1 s2 s3 z1 z2 z3 z4 rfl i1 i2 lc0 lr0 fun x9 y9 w9 h9 d1' d2' d5' d6' h3 tk3 r1 r2 r3 r4 F3 N4 => ?_)
    rw [SX.g3] at r1
    rw [SY.g3] at r2
    rw [SX.g3, SX.g4] at r3
    rw [SY.g3, SY.g4] at r4
    clear kj hW pc pr ec er
    have t1 : x8 = x9 := q1.trans r1.symm
    have t2 : y8 = y9 := q2.trans r2.symm
    have t3 : w8 = w9 := q3.trans r3.symm
    have t4 : h8 = h9 := q4.trans r4.symm
    subst t1 t2 t3 t4
    have u := span_in q1 q3
    have v := span_in q2 q4
    refine fin22 (cols := cols) (rows := rows) (mvs := mvs) (ovs := ovs) (nm := nm) (no := no) (svs := svs) (nsh := nsh) (ivs := ivs) (nin := nin) hcs hd hu hb X T F3 N4 c1 d1 c2 d2 c3 e3 c4 e4 d3 s1 s2 s3 (span_pos q3 z1) (span_pos q4 z2) z3 z4 hG2 (bd_mul hB (span_bd q3 b1 b3 b5 b7) (span_bd q4 b2 b4 b6 b8)) (bd_mul hB (b7.mono (b48 B)) (b8.mono (b48 B))) (.inl ⟨rfl, decide_eq_true ⟨v.1, u.1, v.2, u.2⟩, decide_eq_decide.mpr (span_same u v)⟩) fun h' tk' g' m' => hk h' tk' g' m'
  | false =>
    have kj : ¬ _ := fun q => Bool.noConfusion (e.symm.trans (hW.mpr q))
    subst e
    clear hW pc pr ec er
    have kA := fun q => kj (.inl q)
    have kB := fun q => kj (.inr (.inl q))
    have kC : ¬ (y ≤ b + d ∧ b ≤ y + ht ∧ x ≤ a + c ∧ a ≤ x + wd) ∨ (¬ (x = a ∧ wd = c) ∧ ¬ (y = b ∧ ht = d)) := by
      by_cases hI : (y ≤ b + d ∧ b ≤ y + ht ∧ x ≤ a + c ∧ a ≤ x + wd)
      · exact .inr ⟨fun q => kj (.inr (.inr ⟨hI, .inl q⟩)), fun q => kj (.inr (.inr ⟨hI, .inr q⟩))⟩
      · exact .inl hI
    refine chunk 20 1 21 rfl (chunkI20f (cols := cols) (rows := rows) (mvs := mvs) (ovs := ovs) (nm := nm) (no := no) (svs := svs) (nsh := nsh) (ivs := ivs) (nin := nin) rfl hcs hd hu hb X T F1 N2 d3 rfl kA kB kC hG fun h2 tk2 g2 hG2 F2 N3 => ?_)
    clear kj kA kB kC
    refine chunk 21 1 22 rfl (chunkJ21f (cols := cols) (rows := rows) (mvs := mvs) (ovs := ovs) (nm := nm) (no := no) (svs := svs) (nsh := nsh) (ivs := ivs) (nin := nin) rfl hcs hd hu hb X T F2 N3 rfl fun h3 tk3 F3 N4 => ?_)
    refine fin22 (cols := cols) (rows := rows) (mvs := mvs) (ovs := ovs) (nm := nm) (no := no) (svs := svs) (nsh := nsh) (ivs := ivs) (nin := nin) hcs hd hu hb X T F3 N4 c1 d1 c2 d2 c3 e3 c4 e4 d3 s1 s2 s3 z1 z2 z3 z4 hG2 (bd_mul hB (b3.mono (b48 B)) (b4.mono (b48 B))) (bd_mul hB (b7.mono (b48 B)) (b8.mono (b48 B))) (.inr ⟨rfl, law_k1 SX SY hs ho, law_k2 SX SY hs hm, ?_⟩) fun h' tk' g' m' => hk h' tk' g' m'
    rw [← law_k2 SX SY hs hm, decide_eq_true_eq]
    exact same_le

theorem fin17 {x wd y ht a c b d : Int} {tx tw ty th ta tc tb td : Tok} {lc lr one done two dtwo : Addr} {cvs rvs : List Value} {nc nr : Nat} {cols rows : List Int} {ka kb kc kd ke ja jb jc jd je : Tok} {lm lo : Addr} {om oo oc : Obj} {mvs ovs : Array Value} {nm no : Nat} {lsh : Addr} {osh : Obj} {svs : Array Value} {nsh : Nat} {lin : Addr} {oin : Obj} {ivs : Array Value} {nin : Nat} {dv : Value} {lf lw : Option Value} {imm : List (Addr × Obj)} {sh inn : List (Int × Int)} {B : Nat} {X1 X2 A1 A2 Y1 Y2 B1 B2 : Nat} (hcs : cs = lawS) (hd : dp ≤ 310) (hu : un ≤ 1000) (hb : Below A₀ base outer h₀) (X : (Mine.K0 w.params).In h₀) (T : Top Mine.Vw (looseW Mine.Vw [Str.ofString "Rectangle"]) mean mg mb h₀) (F : Fr h₀ L s.heap (fun q => if q = Str.ofString "due" then some dv else if q = Str.ofString "left" then lf else if q = Str.ofString "low" then lw else if q = Str.ofString "inner" then some (.ref lin) else if q = Str.ofString "shared" then some (.ref lsh) else if q = Str.ofString "mine" then some (.ref lm) else if q = Str.ofString "two" then some (.ref two) else if q = Str.ofString "one" then some (.ref one) else if q = Str.ofString "rows" then some (.ref lr) else if q = Str.ofString "columns" then some (.ref lc) else if q = Str.ofString "d" then some (.int d td) else if q = Str.ofString "b" then some (.int b tb) else if q = Str.ofString "c" then some (.int c tc) else if q = Str.ofString "a" then some (.int a ta) else if q = Str.ofString "h" then some (.int ht th) else if q = Str.ofString "y" then some (.int y ty) else if q = Str.ofString "w" then some (.int wd tw) else if q = Str.ofString "x" then some (.int x tx) else if q = Str.ofString "script" then some (.ref l) else m0 q)) (N : News h₀ L s.heap ((lin, oin) :: (lsh, osh) :: (lm, om) :: (lo, oo) :: (one, instObj 203 done) :: (done, rd w.params ka kb kc kd ke x y wd ht tx ty tw th) :: (two, instObj 203 dtwo) :: (dtwo, rd w.params ja jb jc jd je a b c d ta tb tc td) :: (lc, listOf cvs.toArray nc) :: (lr, listOf rvs.toArray nr) :: (c0, oc) :: imm)) (c1 : om.cls = .type "list") (d1 : om.data = .seq mvs nm) (c2 : oo.cls = .type "list") (d2 : oo.data = .seq ovs no) (c3 : osh.cls = .type "list") (e3 : osh.data = .seq svs nsh) (c4 : oin.cls = .type "list") (e4 : oin.data = .seq ivs nin) (d3 : oc.data = .cell (some (.ref lo))) (PS : Paired (PtS h₀ imm) svs.toList sh) (PI : Paired (PtS h₀ imm) ivs.toList inn) (s1 : mvs.size ≤ 81) (s2 : ovs.size ≤ 81) (s3 : svs.size ≤ 81) (z1 : 0 ≤ wd) (z2 : 0 ≤ ht) (z3 : 0 ≤ c) (z4 : 0 ≤ d) (hG : AllBare s.gens) (hdd : done ≠ dtwo) (hB : MulB B)
    (SX : Axis cols x wd a c X1 X2 A1 A2) (SY : Axis rows y ht b d Y1 Y2 B1 B2) (hs : svs.size = (shOf X1 X2 Y1 Y2 A1 A2 B1 B2).length) (hm : mvs.size = (grid X1 X2 Y1 Y2).length) (ho : ovs.size = (grid A1 A2 B1 B2).length)
    (i1 : IntsAre cvs cols) (i2 : IntsAre rvs rows) (n1 : cols.length ≤ 4) (n2 : rows.length ≤ 4)
    (b1 : Bd (4 * B) x) (b2 : Bd (4 * B) y) (b3 : Bd (4 * B) wd) (b4 : Bd (4 * B) ht) (b5 : Bd (4 * B) a) (b6 : Bd (4 * B) b) (b7 : Bd (4 * B) c) (b8 : Bd (4 * B) d)
    (hk : ∀ (h' : Heap) (tk' : Nat) (g' : Array GenState) (m' : Str → Option Value), AllBare g' → Fr h₀ L h' m' → Q (.ret (.bool true)) { s with heap := h', toks := tk', gens := g' }) :
    wpAny (model PySem.Challenge.rw_jb0029_01.row.prog w) (ktrTop dp un gd cn cs L aa ccd [(Str.ofString "other", c0)] outer) (execs  (lawB.drop 17)  (envX cn cs L aa ccd [(Str.ofString "other", c0)])) Q E s := by
  refine chunk 17 1 18 rfl (chunkF17 (cols := cols) (rows := rows) (mvs := mvs) (ovs := ovs) (nm := nm) (no := no) (svs := svs) (nsh := nsh) (ivs := ivs) (nin := nin) rfl hcs hd hu hb X T F N c1 d1 c2 d2 c3 e3 c4 e4 d3 PS PI s1 s2 s3 z1 z2 z3 z4 (bd_mul hB (b3.mono (b48 B)) (b4.mono (b48 B))) (bd_mul hB (b7.mono (b48 B)) (b8.mono (b48 B))) fun h1 tk1 F1 N1 => ?_)
  refine chunk 18 1 19 rfl (chunkG18 (cols := cols) (rows := rows) (mvs := mvs) (ovs := ovs) (nm := nm) (no := no) (svs := svs) (nsh := nsh) (ivs := ivs) (nin := nin) rfl hcs hd hu hb X T F1 N1 c1 d1 c2 d2 c3 e3 c4 e4 d3 PS PI s1 s2 s3 z1 z2 z3 z4 hG fun h2 tk2 g2 hG2 F2 N2 => ?_)
  exact fin19 (cols := cols) (rows := rows) (mvs := mvs) (ovs := ovs) (nm := nm) (no := no) (svs := svs) (nsh := nsh) (ivs := ivs) (nin := nin) hcs hd hu hb X T F2 N2 c1 d1 c2 d2 c3 e3 c4 e4 d3 PS PI s1 s2 s3 z1 z2 z3 z4 hG2 hdd hB SX SY hs hm ho i1 i2 n1 n2 b1 b2 b3 b4 b5 b6 b7 b8 fun h' tk' g' m' => hk h' tk' g' m'

theorem fin14 {x wd y ht a c b d : Int} {tx tw ty th ta tc tb td : Tok} {lc lr one done two dtwo : Addr} {cvs rvs : List Value} {nc nr : Nat} {cols rows : List Int} {ka kb kc kd ke ja jb jc jd je : Tok} {lm lo : Addr} {om oo oc : Obj} {mvs ovs : Array Value} {nm no : Nat} {lsh : Addr} {osh : Obj} {svs : Array Value} {nsh : Nat} {lin : Addr} {oin : Obj} {ivs : Array Value} {nin : Nat} {dv : Value} {lf lw : Option Value} {imm : List (Addr × Obj)} {sh inn : List (Int × Int)} {B : Nat} {X1 X2 A1 A2 Y1 Y2 B1 B2 : Nat} (hcs : cs = lawS) (hd : dp ≤ 310) (hu : un ≤ 1000) (hb : Below A₀ base outer h₀) (X : (Mine.K0 w.params).In h₀) (T : Top Mine.Vw (looseW Mine.Vw [Str.ofString "Rectangle"]) mean mg mb h₀) (F : Fr h₀ L s.heap (fun q => if q = Str.ofString "due" then some dv else if q = Str.ofString "left" then lf else if q = Str.ofString "low" then lw else if q = Str.ofString "inner" then some (.ref lin) else if q = Str.ofString "shared" then some (.ref lsh) else if q = Str.ofString "mine" then some (.ref lm) else if q = Str.ofString "two" then some (.ref two) else if q = Str.ofString "one" then some (.ref one) else if q = Str.ofString "rows" then some (.ref lr) else if q = Str.ofString "columns" then some (.ref lc) else if q = Str.ofString "d" then some (.int d td) else if q = Str.ofString "b" then some (.int b tb) else if q = Str.ofString "c" then some (.int c tc) else if q = Str.ofString "a" then some (.int a ta) else if q = Str.ofString "h" then some (.int ht th) else if q = Str.ofString "y" then some (.int y ty) else if q = Str.ofString "w" then some (.int wd tw) else if q = Str.ofString "x" then some (.int x tx) else if q = Str.ofString "script" then some (.ref l) else m0 q)) (N : News h₀ L s.heap ((lin, oin) :: (lsh, osh) :: (lm, om) :: (lo, oo) :: (one, instObj 203 done) :: (done, rd w.params ka kb kc kd ke x y wd ht tx ty tw th) :: (two, instObj 203 dtwo) :: (dtwo, rd w.params ja jb jc jd je a b c d ta tb tc td) :: (lc, listOf cvs.toArray nc) :: (lr, listOf rvs.toArray nr) :: (c0, oc) :: imm)) (c1 : om.cls = .type "list") (d1 : om.data = .seq mvs nm) (c2 : oo.cls = .type "list") (d2 : oo.data = .seq ovs no) (c3 : osh.cls = .type "list") (e3 : osh.data = .seq svs nsh) (c4 : oin.cls = .type "list") (e4 : oin.data = .seq ivs nin) (d3 : oc.data = .cell (some (.ref lo))) (PS : Paired (PtS h₀ imm) svs.toList sh) (PI : Paired (PtS h₀ imm) ivs.toList inn) (s1 : mvs.size ≤ 81) (s2 : ovs.size ≤ 81) (s3 : svs.size ≤ 81) (z1 : 0 ≤ wd) (z2 : 0 ≤ ht) (z3 : 0 ≤ c) (z4 : 0 ≤ d) (hG : AllBare s.gens) (hdd : done ≠ dtwo) (hB : MulB B)
    (SX : Axis cols x wd a c X1 X2 A1 A2) (SY : Axis rows y ht b d Y1 Y2 B1 B2) (esh : sh = shOf X1 X2 Y1 Y2 A1 A2 B1 B2) (einn : inn = sh.filter odd2) (hs : svs.size = (shOf X1 X2 Y1 Y2 A1 A2 B1 B2).length) (hm : mvs.size = (grid X1 X2 Y1 Y2).length) (ho : ovs.size = (grid A1 A2 B1 B2).length)
    (i1 : IntsAre cvs cols) (i2 : IntsAre rvs rows) (n1 : cols.length ≤ 4) (n2 : rows.length ≤ 4)
    (b1 : Bd (4 * B) x) (b2 : Bd (4 * B) y) (b3 : Bd (4 * B) wd) (b4 : Bd (4 * B) ht) (b5 : Bd (4 * B) a) (b6 : Bd (4 * B) b) (b7 : Bd (4 * B) c) (b8 : Bd (4 * B) d)
    (hdue : (sh = [] ∧ dv = .none) ∨ (sh ≠ [] ∧ ∃ (TD : Addr) (g1 g2 g3 g4 : Tok) (ng : Nat), dv = .ref TD ∧ (TD, ({ cls := .type "tuple", data := .seq [.int (max x a) g1, .int (max y b) g2, .int (min (x + wd) (a + c) - max x a) g3, .int (min (y + ht) (b + d) - max y b) g4].toArray ng } : Obj)) ∈ imm))
    (hk : ∀ (h' : Heap) (tk' : Nat) (g' : Array GenState) (m' : Str → Option Value), AllBare g' → Fr h₀ L h' m' → Q (.ret (.bool true)) { s with heap := h', toks := tk', gens := g' }) :
    wpAny (model PySem.Challenge.rw_jb0029_01.row.prog w) (ktrTop dp un gd cn cs L aa ccd [(Str.ofString "other", c0)] outer) (execs  (lawB.drop 14)  (envX cn cs L aa ccd [(Str.ofString "other", c0)])) Q E s := by
  have kI := law_k3 SX SY
  rw [← esh] at kI
  have kQ : (b ≤ y + ht ∧ y ≤ b + d ∧ a ≤ x + wd ∧ x ≤ a + c) ↔ (y ≤ b + d ∧ b ≤ y + ht ∧ x ≤ a + c ∧ a ≤ x + wd) := ⟨fun ⟨q1, q2, q3, q4⟩ => ⟨q2, q1, q4, q3⟩, fun ⟨q1, q2, q3, q4⟩ => ⟨q2, q1, q4, q3⟩⟩
  refine chunk 14 1 15 rfl (chunkE14 (cols := cols) (rows := rows) (mvs := mvs) (ovs := ovs) (nm := nm) (no := no) (svs := svs) (nsh := nsh) (ivs := ivs) (nin := nin) rfl hcs hd hu hb X T F N c1 d1 c2 d2 c3 e3 c4 e4 d3 PS PI s1 s2 s3 z1 z2 z3 z4 (decide_eq_decide.mpr kI) (decide_eq_decide.mpr (kQ.trans kI)) fun h1 tk1 F1 N1 => ?_)
  have go : ∀ (h2 : Heap) (tk2 : Nat), Fr h₀ L h2 (fun q => if q = Str.ofString "due" then some dv else if q = Str.ofString "left" then lf else if q = Str.ofString "low" then lw else if q = Str.ofString "inner" then some (.ref lin) else if q = Str.ofString "shared" then some (.ref lsh) else if q = Str.ofString "mine" then some (.ref lm) else if q = Str.ofString "two" then some (.ref two) else if q = Str.ofString "one" then some (.ref one) else if q = Str.ofString "rows" then some (.ref lr) else if q = Str.ofString "columns" then some (.ref lc) else if q = Str.ofString "d" then some (.int d td) else if q = Str.ofString "b" then some (.int b tb) else if q = Str.ofString "c" then some (.int c tc) else if q = Str.ofString "a" then some (.int a ta) else if q = Str.ofString "h" then some (.int ht th) else if q = Str.ofString "y" then some (.int y ty) else if q = Str.ofString "w" then some (.int wd tw) else if q = Str.ofString "x" then some (.int x tx) else if q = Str.ofString "script" then some (.ref l) else m0 q) → News h₀ L h2 ((lin, oin) :: (lsh, osh) :: (lm, om) :: (lo, oo) :: (one, instObj 203 done) :: (done, rd w.params ka kb kc kd ke x y wd ht tx ty tw th) :: (two, instObj 203 dtwo) :: (dtwo, rd w.params ja jb jc jd je a b c d ta tb tc td) :: (lc, listOf cvs.toArray nc) :: (lr, listOf rvs.toArray nr) :: (c0, oc) :: imm) → wpAny (model PySem.Challenge.rw_jb0029_01.row.prog w) (ktrTop dp un gd cn cs L aa ccd [(Str.ofString "other", c0)] outer) (execs (lawB.drop 17) (envX cn cs L aa ccd [(Str.ofString "other", c0)])) Q E { s with heap := h2, toks := tk2 } :=
    fun h2 tk2 F2 N2 => fin17 (cols := cols) (rows := rows) (mvs := mvs) (ovs := ovs) (nm := nm) (no := no) (svs := svs) (nsh := nsh) (ivs := ivs) (nin := nin) hcs hd hu hb X T F2 N2 c1 d1 c2 d2 c3 e3 c4 e4 d3 PS PI s1 s2 s3 z1 z2 z3 z4 hG hdd hB SX SY hs hm ho i1 i2 n1 n2 b1 b2 b3 b4 b5 b6 b7 b8 fun h' tk' g' m' => hk h' tk' g' m'
  clear hk hs hm ho i1 i2 n1 n2 b1 b2 b3 b4 b5 b6 b7 b8 hG hdd hB
  by_cases hpos : 0 < wd ∧ 0 < ht ∧ 0 < c ∧ 0 < d
  · obtain ⟨p1, p2, p3, p4⟩ := hpos
    have kN := law_k4 SX SY p1 p2 p3 p4
    rw [← esh, ← einn] at kN
    have kP : (b < y + ht ∧ y < b + d ∧ a < x + wd ∧ x < a + c) ↔ (y < b + d ∧ b < y + ht ∧ x < a + c ∧ a < x + wd) := ⟨fun ⟨q1, q2, q3, q4⟩ => ⟨q2, q1, q4, q3⟩, fun ⟨q1, q2, q3, q4⟩ => ⟨q2, q1, q4, q3⟩⟩
    rcases hdue with ⟨h0, kdv⟩ | ⟨h0, TD, g1, g2, g3, g4, ng, kdv, hT⟩
    · have nI := fun q => kI.mp q h0
      have i0 : inn = [] := by rw [einn, h0]; rfl
      have nN : ¬ (y < b + d ∧ b < y + ht ∧ x < a + c ∧ a < x + wd) := fun q => kN.mp q i0
      refine chunk 15 1 16 rfl (chunkE15a (cols := cols) (rows := rows) (mvs := mvs) (ovs := ovs) (nm := nm) (no := no) (svs := svs) (nsh := nsh) (ivs := ivs) (nin := nin) rfl hcs hd hu hb X T F1 N1 c1 d1 c2 d2 c3 e3 c4 e4 d3 PS PI s1 s2 s3 z1 z2 z3 z4 nI kdv fun h2 tk2 F2 N2 => ?_)
      exact chunk 16 1 17 rfl (chunkE16a (cols := cols) (rows := rows) (mvs := mvs) (ovs := ovs) (nm := nm) (no := no) (svs := svs) (nsh := nsh) (ivs := ivs) (nin := nin) rfl hcs hd hu hb X T F2 N2 c1 d1 c2 d2 c3 e3 c4 e4 d3 PS PI s1 s2 s3 z1 z2 z3 z4 nN i0 (decide_eq_false fun q => nN (kP.mp q)) p1 p2 p3 p4 go)
    · refine chunk 15 1 16 rfl (chunkE15b (cols := cols) (rows := rows) (mvs := mvs) (ovs := ovs) (nm := nm) (no := no) (svs := svs) (nsh := nsh) (ivs := ivs) (nin := nin) rfl hcs hd hu hb X T F1 N1 c1 d1 c2 d2 c3 e3 c4 e4 d3 PS PI s1 s2 s3 z1 z2 z3 z4 (kI.mpr h0) kdv hT fun h2 tk2 F2 N2 => ?_)
      by_cases i0 : inn = []
      · have nN : ¬ (y < b + d ∧ b < y + ht ∧ x < a + c ∧ a < x + wd) := fun q => kN.mp q i0
        exact chunk 16 1 17 rfl (chunkE16a (cols := cols) (rows := rows) (mvs := mvs) (ovs := ovs) (nm := nm) (no := no) (svs := svs) (nsh := nsh) (ivs := ivs) (nin := nin) rfl hcs hd hu hb X T F2 N2 c1 d1 c2 d2 c3 e3 c4 e4 d3 PS PI s1 s2 s3 z1 z2 z3 z4 nN i0 (decide_eq_false fun q => nN (kP.mp q)) p1 p2 p3 p4 go)
      · exact chunk 16 1 17 rfl (chunkE16b (cols := cols) (rows := rows) (mvs := mvs) (ovs := ovs) (nm := nm) (no := no) (svs := svs) (nsh := nsh) (ivs := ivs) (nin := nin) rfl hcs hd hu hb X T F2 N2 c1 d1 c2 d2 c3 e3 c4 e4 d3 PS PI s1 s2 s3 z1 z2 z3 z4 (kN.mpr i0) i0 (decide_eq_true (kP.mpr (kN.mpr i0))) kdv hT p1 p2 p3 p4 go)
  · rcases hdue with ⟨h0, kdv⟩ | ⟨h0, TD, g1, g2, g3, g4, ng, kdv, hT⟩
    · refine chunk 15 1 16 rfl (chunkE15a (cols := cols) (rows := rows) (mvs := mvs) (ovs := ovs) (nm := nm) (no := no) (svs := svs) (nsh := nsh) (ivs := ivs) (nin := nin) rfl hcs hd hu hb X T F1 N1 c1 d1 c2 d2 c3 e3 c4 e4 d3 PS PI s1 s2 s3 z1 z2 z3 z4 (fun q => kI.mp q h0) kdv fun h2 tk2 F2 N2 => ?_)
      exact chunk 16 1 17 rfl (chunkE16n (cols := cols) (rows := rows) (mvs := mvs) (ovs := ovs) (nm := nm) (no := no) (svs := svs) (nsh := nsh) (ivs := ivs) (nin := nin) rfl hcs hd hu hb X T F2 N2 c1 d1 c2 d2 c3 e3 c4 e4 d3 PS PI s1 s2 s3 z1 z2 z3 z4 hpos go)
    · refine chunk 15 1 16 rfl (chunkE15b (cols := cols) (rows := rows) (mvs := mvs) (ovs := ovs) (nm := nm) (no := no) (svs := svs) (nsh := nsh) (ivs := ivs) (nin := nin) rfl hcs hd hu hb X T F1 N1 c1 d1 c2 d2 c3 e3 c4 e4 d3 PS PI s1 s2 s3 z1 z2 z3 z4 (kI.mpr h0) kdv hT fun h2 tk2 F2 N2 => ?_)
      exact chunk 16 1 17 rfl (chunkE16n (cols := cols) (rows := rows) (mvs := mvs) (ovs := ovs) (nm := nm) (no := no) (svs := svs) (nsh := nsh) (ivs := ivs) (nin := nin) rfl hcs hd hu hb X T F2 N2 c1 d1 c2 d2 c3 e3 c4 e4 d3 PS PI s1 s2 s3 z1 z2 z3 z4 hpos go)

theorem ptS_mono {g : Heap} {imm imm' : List (Addr × Obj)} {ys : List Value} {ps : List (Int × Int)} (hs : ∀ q ∈ imm, q ∈ imm') (x : Paired (PtS g imm) ys ps) : Paired (PtS g imm') ys ps :=
  x.mono fun _ _ ⟨T, ob, n, ti, tj, e, hT, hc, hd⟩ => ⟨T, ob, n, ti, tj, e, hT.imp id (hs _), hc, hd⟩

theorem law_walk {vs : List Value} {zs : List Int} {B : Nat} {oc : Obj} (hcs : cs = lawS) (hd : dp ≤ 310) (hu : un ≤ 1000) (hb : Below A₀ base outer h₀) (X : (Mine.K0 w.params).In h₀) (T : Top Mine.Vw (looseW Mine.Vw [Str.ofString "Rectangle"]) mean mg mb h₀)
    (F : Fr h₀ L s.heap (fun y => if y = Str.ofString "script" then some (.ref l) else m0 y)) (N : News h₀ L s.heap [(c0, oc)]) (hoc : oc.data = .cell none)
    (hL : h₀.IsList l vs.toArray) (hi : IntsAre vs zs) (h64 : zs.length < 64) (hbs : ∀ z ∈ zs, Bd B z) (hB : 100 ≤ B) (hM : MulB B) (hG : AllBare s.gens)
    (hk : ∀ (h' : Heap) (tk' : Nat) (g' : Array GenState) (m' : Str → Option Value), AllBare g' → Fr h₀ L h' m' → Q (.ret (.bool true)) { s with heap := h', toks := tk', gens := g' }) :
    wpAny (model PySem.Challenge.rw_jb0029_01.row.prog w) (ktrTop dp un gd cn cs L aa ccd [(Str.ofString "other", c0)] outer) (execs  lawB  (envX cn cs L aa ccd [(Str.ofString "other", c0)])) Q E s := by
  show wpAny (model PySem.Challenge.rw_jb0029_01.row.prog w) (ktrTop dp un gd cn cs L aa ccd [(Str.ofString "other", c0)] outer) (execs  (lawB.drop 0)  (envX cn cs L aa ccd [(Str.ofString "other", c0)])) Q E s
  refine chunk 0 7 7 rfl (chunkA1 rfl hcs hd hu hb X T F N hL hi h64 hbs hB ?_)
  intro x wd y ht a c b d tx tw ty th ta tc tb td lc lr one done two dtwo cvs rvs nc nr cols rows ka kb kc kd ke ja jb jc jd je h1 tk1 F1 N1 i1 p1 m1 n1 i2 p2 m2 n2 z1 z2 z3 z4 b1 b2 b3 b4 b5 b6 b7 b8 hdd
  refine chunk 7 2 9 rfl (chunkA2 rfl hcs hd hu hb X T F1 N1 hoc i1 p1 m1 n1 i2 p2 m2 n2 z1 z2 z3 z4 ?_)
  intro lm lo om oo oc2 mvs ovs nm no h2 tk2 F2 N2 c1 d1 c2 d2 d3 PM PO
  have SX := axis p1 m1 n1 z1 z3
  have SY := axis p2 m2 n2 z2 z4
  refine chunk 9 1 10 rfl (chunkB1 (cols := cols) (rows := rows) (mvs := mvs) (ovs := ovs) (nm := nm) (no := no) rfl hcs hd hu hb X T F2 N2 c1 d1 c2 d2 d3 n1 n2 PM PO ?_)
  intro lsh osh svs nsh h3 tk3 F3 N3 c3 e3 PS0
  have hgm : (grid (cols.idxOf x) (cols.idxOf (x + wd)) (rows.idxOf y) (rows.idxOf (y + ht))).length ≤ 81 := grid_small (by have := SX.hi; omega) (by have := SY.hi; omega)
  have hgo : (grid (cols.idxOf a) (cols.idxOf (a + c)) (rows.idxOf b) (rows.idxOf (b + d))).length ≤ 81 := grid_small (by have := SX.hi; omega) (by have := SY.hi; omega)
  have hsh : (shOf (cols.idxOf x) (cols.idxOf (x + wd)) (rows.idxOf y) (rows.idxOf (y + ht)) (cols.idxOf a) (cols.idxOf (a + c)) (rows.idxOf b) (rows.idxOf (b + d))).length ≤ 81 := Nat.le_trans (List.length_filter_le _ _) hgm
  refine chunk 10 1 11 rfl (chunkB2 (cols := cols) (rows := rows) (mvs := mvs) (ovs := ovs) (nm := nm) (no := no) (svs := svs) (nsh := nsh) rfl hcs hd hu hb X T F3 N3 c3 e3 PS0 hsh ?_)
  intro lin oin ivs nin h4 tk4 F4 N4 c4 e4 PS1 PI1
  have hm : mvs.size = (grid (cols.idxOf x) (cols.idxOf (x + wd)) (rows.idxOf y) (rows.idxOf (y + ht))).length := by simpa using PM.length
  have ho : ovs.size = (grid (cols.idxOf a) (cols.idxOf (a + c)) (rows.idxOf b) (rows.idxOf (b + d))).length := by simpa using PO.length
  have hs : svs.size = (shOf (cols.idxOf x) (cols.idxOf (x + wd)) (rows.idxOf y) (rows.idxOf (y + ht)) (cols.idxOf a) (cols.idxOf (a + c)) (rows.idxOf b) (rows.idxOf (b + d))).length := by simpa using PS1.length
  obtain ⟨im1, Nw1, PS2, _⟩ := pts_ledger F4 PS1
  obtain ⟨im2, Nw2, PI2, _⟩ := pts_ledger F4 PI1
  have PS := ptS_mono (imm' := im1 ++ im2) (fun q hq => List.mem_append_left _ hq) PS2
  have PI := ptS_mono (imm' := im1 ++ im2) (fun q hq => List.mem_append_right _ hq) PI2
  have N5 := newsApp N4 (newsApp Nw1 Nw2)
  simp only [List.cons_append, List.nil_append] at N5
  clear PS0 PS1 PI1 PS2 PI2 Nw1 Nw2 N4 PM PO
  have s1 : mvs.size ≤ 81 := by omega
  have s2 : ovs.size ≤ 81 := by omega
  have s3 : svs.size ≤ 81 := by omega
  refine chunk 11 1 12 rfl (chunkC (cols := cols) (rows := rows) (mvs := mvs) (ovs := ovs) (nm := nm) (no := no) (svs := svs) (nsh := nsh) (ivs := ivs) (nin := nin) rfl hcs hd hu hb X T F4 N5 c1 d1 c2 d2 c3 e3 c4 e4 d3 PS PI s1 s2 s3 z1 z2 z3 z4 (law_k1 SX SY hs ho) (law_k2 SX SY hs hm) fun h5 tk5 F5 N6 => ?_)
  by_cases h0 : shOf (cols.idxOf x) (cols.idxOf (x + wd)) (rows.idxOf y) (rows.idxOf (y + ht)) (cols.idxOf a) (cols.idxOf (a + c)) (rows.idxOf b) (rows.idxOf (b + d)) = []
  · refine chunk 12 2 14 rfl (chunkD0 (cols := cols) (rows := rows) (mvs := mvs) (ovs := ovs) (nm := nm) (no := no) (svs := svs) (nsh := nsh) (ivs := ivs) (nin := nin) rfl hcs hd hu hb X T F5 N6 c1 d1 c2 d2 c3 e3 c4 e4 d3 PS PI s1 s2 s3 z1 z2 z3 z4 h0 fun dv lw lf h6 tk6 kdv F6 N7 => ?_)
    exact fin14 (cols := cols) (rows := rows) (mvs := mvs) (ovs := ovs) (nm := nm) (no := no) (svs := svs) (nsh := nsh) (ivs := ivs) (nin := nin) hcs hd hu hb X T F6 N7 c1 d1 c2 d2 c3 e3 c4 e4 d3 PS PI s1 s2 s3 z1 z2 z3 z4 hG hdd hM SX SY rfl rfl hs hm ho i1 i2 n1 n2 b1 b2 b3 b4 b5 b6 b7 b8 (.inl ⟨h0, kdv⟩) fun h' tk' g' m' => hk h' tk' g' m'
  · have g1 : ∀ f : Int × Int → Int, (shOf (cols.idxOf x) (cols.idxOf (x + wd)) (rows.idxOf y) (rows.idxOf (y + ht)) (cols.idxOf a) (cols.idxOf (a + c)) (rows.idxOf b) (rows.idxOf (b + d))).map f ≠ [] := fun f q => h0 (List.map_eq_nil_iff.mp q)
    refine chunk 12 2 14 rfl (chunkD1 (cols := cols) (rows := rows) (mvs := mvs) (ovs := ovs) (nm := nm) (no := no) (svs := svs) (nsh := nsh) (ivs := ivs) (nin := nin) rfl hcs hd hu hb X T F5 N6 c1 d1 c2 d2 c3 e3 c4 e4 d3 PS PI s1 s2 s3 z1 z2 z3 z4 h0 i1 i2 (g1 _) (g1 _) (law_b1 SX h0) (law_b2 SY h0) n1 n2 (law_q1 SX SY h0) (law_q2 SX SY h0) (law_q3 SX SY h0) (law_q4 SX SY h0) fun TD ng t1 t2 t3 t4 dv lw lf h6 tk6 kdv F6 N7 => ?_)
    have N8 := newsSub (imm := (lin, oin) :: (lsh, osh) :: (lm, om) :: (lo, oo) :: (one, instObj 203 done) :: (done, rd w.params ka kb kc kd ke x y wd ht tx ty tw th) :: (two, instObj 203 dtwo) :: (dtwo, rd w.params ja jb jc jd je a b c d ta tb tc td) :: (lc, listOf cvs.toArray nc) :: (lr, listOf rvs.toArray nr) :: (c0, oc2) :: (TD, ({ cls := .type "tuple", data := .seq [.int (max x a) t1, .int (max y b) t2, .int (min (x + wd) (a + c) - max x a) t3, .int (min (y + ht) (b + d) - max y b) t4].toArray ng } : Obj)) :: (im1 ++ im2)) N7 (by
      intro p hp
      simp only [List.mem_cons] at hp ⊢
      rcases hp with h | h | h | h | h | h | h | h | h | h | h | h | h <;> simp only [h, true_or, or_true])
    have PS' := ptS_mono (fun q hq => List.mem_cons_of_mem (TD, ({ cls := .type "tuple", data := .seq [.int (max x a) t1, .int (max y b) t2, .int (min (x + wd) (a + c) - max x a) t3, .int (min (y + ht) (b + d) - max y b) t4].toArray ng } : Obj)) hq) PS
    have PI' := ptS_mono (fun q hq => List.mem_cons_of_mem (TD, ({ cls := .type "tuple", data := .seq [.int (max x a) t1, .int (max y b) t2, .int (min (x + wd) (a + c) - max x a) t3, .int (min (y + ht) (b + d) - max y b) t4].toArray ng } : Obj)) hq) PI
    exact fin14 (cols := cols) (rows := rows) (mvs := mvs) (ovs := ovs) (nm := nm) (no := no) (svs := svs) (nsh := nsh) (ivs := ivs) (nin := nin) hcs hd hu hb X T F6 N8 c1 d1 c2 d2 c3 e3 c4 e4 d3 PS' PI' s1 s2 s3 z1 z2 z3 z4 hG hdd hM SX SY rfl rfl hs hm ho i1 i2 n1 n2 b1 b2 b3 b4 b5 b6 b7 b8 (.inr ⟨h0, TD, t1, t2, t3, t4, ng, kdv, .head _⟩) fun h' tk' g' m' => hk h' tk' g' m'
end
end

-- P32
section
theorem bound_of {ns : List Int} (h : (PyData.list (ns.map PyData.int)).layable0 = true) : ∃ B : Nat, 100 ≤ B ∧ MulB B ∧ ∀ z ∈ ns, Bd B z := by
  have key : ∀ m : Nat, 7 ≤ m → m ≤ 1048577 → (∀ z ∈ ns, Builtin.Int.intBits z ≤ m) → ∃ B : Nat, 100 ≤ B ∧ MulB B ∧ ∀ z ∈ ns, Bd B z := by
    intro m h7 hm hz
    refine ⟨2 ^ m, ?_, mulB_of hm, fun z hzz => ?_⟩
    · have : 2 ^ 7 ≤ 2 ^ m := Nat.pow_le_pow_right (by decide) h7
      exact Nat.le_trans (by decide) this
    · have h1 := intBits_le_iff.mp (hz z hzz)
      unfold Bd
      generalize (2 : Nat) ^ m = k at h1
      omega
  exact key (2 ^ 20) (by decide) (by decide) fun z hz => PyData.bits_item_of_ints h hz

set_option maxHeartbeats 4000000 in
theorem all : PySem.Challenge.rw_jb0029_01.Holds := by
  refine holds_law ws fun said => ?_
  refine holds_open (q := Vw) (loose := [Str.ofString "Rectangle"]) (Xt := fun s => xlAt Vw [] s && recOk (RowW.records PySem.Challenge.rw_jb0029_01.row.toRowW) s) (XP := XL Vw []) (Yf := Hook.obs (kHook K0 K0a K0e)) (Ya := Hook.val (kHook K0 K0a K0e)) (YP := Hook.says (kHook K0 K0a K0e)) (N := 3736) left0 (Hook.of (kHook K0 K0a K0e)) (Hook.keeps (kHook K0 K0a K0e))
    (fun s e => xl_of s (Bool.and_eq_true_iff.mp e).1) XL.keeps (by rfl) (by rfl) (by rfl) (fun s e => recFacts_of (Bool.and_eq_true_iff.mp e).2) (by rfl) said (by decide +kernel) ⟨rfl, rfl, rfl, rfl, rfl, by decide +kernel⟩ ?hw ?hc
  case hw => w_witness2
  k_fill
  intro w s₀ s₁ mg mb G Y fa o pm cd doc dV kV ho hd hcd hD hmg hg args vals as hpre hlay hrd hwl hlo
  have KX := kIn_of Y
  have X := (Ground.X G).1
  have V := (Ground.X G).2
  try w_nolog (have GL := glob_more (Ground.glob G (by decide +kernel) (by decide +kernel)) V)
  refine Ground.open G ?_
  intro T B D TE TW
  try (refine guard_noD D (by decide +kernel) ?_; clear D)
  obtain ⟨_, _, M⟩ := bmod_of_top T
  have TA := at_of_top T
  try (obtain ⟨_, _, he, B0⟩ := based_of_top T rfl hmg ho hd; have he' : cd = _ := he; subst he'; clear he)
  clear hmg
  wrow_args hpre hlay hrd hwl hlo
  refine enter_call ?_
  w_top on
  have K0 := below_caller (Top.heap T)
  w_call any ho hd hcd hD T F
  clear hd TA
  obtain ⟨B, hB, hM, hbs⟩ := bound_of (by assumption)
  refine law_walk (dp := callerA.depth + 1) (un := callerA.units + 3) (gd := callerA.guards) (outer := []) (A₀ := callerA) (base := s₁.heap) (m0 := fun _ => none) (mean := ExcName.means s₀.heap) rfl (by decide) (by decide) (below_caller _) KX T (Fr.eqm F (fun q => rfl)) (by assumption) (by assumption) (by assumption) (by assumption) (by omega) hbs hB hM (by rw [hg]; intro y hy; simp at hy) ?_
  intro h' tk' g' m' hg' F'
  exact goodWG_reads B0 F' hg' (raisesW_false (by wrow_none_raised)) (.bool true) unshared_nil (postW_of (by wrow_shape) (by wtm_val) (by w_fin)) rfl
end

end Mine

set_option maxRecDepth 100000 in
set_option maxHeartbeats 8000000 in
theorem PySem.Challenge.cw_jb0029_01_holds : PySem.Challenge.rw_jb0029_01.Holds := by
  exact Mine.all
