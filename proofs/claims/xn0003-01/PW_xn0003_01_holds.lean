import PyProof.Rows.All
import Wide.All
import OpenK.AllK
import Wide.FinOn
import Lean
import PySem.Challenge.RW_xn0003_01

set_option maxRecDepth 100000
set_option linter.unusedVariables false
noncomputable section SecHeadBase
namespace Mine
open PySem PySem.W PySem.Calls PyProof.Rows
noncomputable abbrev pw : Program := PySem.Challenge.pw_xn0003_01
noncomputable def stm (i : Nat) : Stmt := pw.main.body.getD i (.Pass ⟨0, 0, 0, 0⟩)
noncomputable def clsB : Stmt → List Stmt
  | .ClassDef _ _ _ b _ _ _ _ _ _ _ => b
  | _ => []
noncomputable def mth (i : Nat) : Stmt := (clsB (stm 3)).getD i (.Pass ⟨0, 0, 0, 0⟩)
noncomputable def fnP : Stmt → Arguments
  | .FunctionDef _ a _ _ _ _ _ _ _ _ => a
  | _ => default
noncomputable def fnB : Stmt → List Stmt
  | .FunctionDef _ _ b _ _ _ _ _ _ _ => b
  | _ => []
noncomputable def fnS : Stmt → Scope
  | .FunctionDef _ _ _ _ _ _ s _ _ _ => s
  | _ => default
noncomputable def sts (a n : Nat) : List Stmt := (pw.main.body.drop a).take n
noncomputable def x11v0 (P : Params) : Obj := { cls := (.type "tuple"), dict := none, data := .seq #[] 0, slots := #[] }
noncomputable def x12v0 (P : Params) : Obj := { cls := .none, dict := none, data := .fields #[], slots := #[] }
noncomputable def x13v0 (P : Params) : Obj := { cls := (.type "code"), dict := none, data := .fields #[(.str (Str.ofString "<module>") 182), (.str (Str.ofString "<module>") 183), (.str (Str.ofString "/claim/cut.py") 184), (.int 1 0), (.int 0 0), (.int 0 0), (.int 0 0), (.int 0 0), (.ref 11), (.bool false), (.int 181 0), (.ref 12), .none, .none, .none, .none, (.int 185 0), (.int 1 0), (.str (Str.ofString "/claim/cut.py") 186)], slots := #[] }
noncomputable def x14v0 (P : Params) : Obj := { cls := (.type "frame"), dict := none, data := .plain, slots := #[(some (.ref 13)), (some (.ref 3)), (some (.ref 3)), none, (some (.str (Str.ofString "__main__") 164)), none, (some (.ref 0))] }
noncomputable def x3v1 (P : Params) : Obj := { cls := (.type "dict"), dict := none, data := .dict #[⟨PyData.keyHash P (Str.ofString "__name__"), (.str (Str.ofString "__name__") 165), (.str (Str.ofString "cpy313.email.header") 194)⟩, ⟨PyData.keyHash P (Str.ofString "__doc__"), (.str (Str.ofString "__doc__") 166), .none⟩, ⟨PyData.keyHash P (Str.ofString "__package__"), (.str (Str.ofString "__package__") 167), .none⟩, ⟨PyData.keyHash P (Str.ofString "__loader__"), (.str (Str.ofString "__loader__") 168), (.builtin "__main__.__loader__#opaque")⟩, ⟨PyData.keyHash P (Str.ofString "__spec__"), (.str (Str.ofString "__spec__") 169), .none⟩, ⟨PyData.keyHash P (Str.ofString "__annotations__"), (.str (Str.ofString "__annotations__") 170), (.ref 6)⟩, ⟨PyData.keyHash P (Str.ofString "__builtins__"), (.str (Str.ofString "__builtins__") 171), (.ref 4)⟩, ⟨PyData.keyHash P (Str.ofString "__file__"), (.str (Str.ofString "__file__") 173), (.str (Str.ofString "/claim/cut.py") 172)⟩, ⟨PyData.keyHash P (Str.ofString "__cached__"), (.str (Str.ofString "__cached__") 174), .none⟩, ⟨PyData.keyHash P (Str.ofString "_wall"), (.str (Str.ofString "_wall") 193), (.ref 21)⟩, ⟨PyData.keyHash P (Str.ofString "EMPTYSTRING"), (.str (Str.ofString "EMPTYSTRING") 197), (.str (Str.ofString "") 196)⟩] 11, slots := #[] }
noncomputable def x12v1 (P : Params) : Obj := { cls := .none, dict := none, data := .fields #[(.int 1 0), (.int 0 0), (.ref 20)], slots := #[] }
noncomputable def x15v0 (P : Params) : Obj := { cls := (.type "tuple"), dict := none, data := .seq #[] 0, slots := #[] }
noncomputable def x16v0 (P : Params) : Obj := { cls := .none, dict := none, data := .fields #[], slots := #[] }
noncomputable def x17v0 (P : Params) : Obj := { cls := (.type "tuple"), dict := none, data := .seq #[(.str (Str.ofString "k") 190)] 0, slots := #[] }
noncomputable def x18v0 (P : Params) : Obj := { cls := (.type "tuple"), dict := none, data := .seq #[] 0, slots := #[] }
noncomputable def x19v0 (P : Params) : Obj := { cls := .none, dict := none, data := .func { name := (Str.ofString "_wall"), qualname := (Str.ofString "_wall"), params := fnP (stm 0), body := .stmts (fnB (stm 0)), scope := fnS (stm 0), globals := 0, closure := [], defaults := .none, kwdefaults := .none, doc := .none, pyModule := .none, annotations := none, code := .none, closureTuple := .none, builtins := 0 }, slots := #[] }
noncomputable def x20v0 (P : Params) : Obj := { cls := (.type "code"), dict := none, data := .fields #[(.str (Str.ofString "_wall") 187), (.str (Str.ofString "_wall") 188), (.str (Str.ofString "/claim/cut.py") 189), (.int 1 0), (.int 1 0), (.int 0 0), (.int 0 0), (.int 3 0), (.ref 15), (.bool true), (.int 181 0), (.ref 16), .none, (.ref 17), (.ref 18), (.ref 19), (.int 191 0), (.int 1 0), (.str (Str.ofString "/claim/cut.py") 192)], slots := #[] }
noncomputable def x21v0 (P : Params) : Obj := { cls := (.type "function"), dict := none, data := .func { name := (Str.ofString "_wall"), qualname := (Str.ofString "_wall"), params := fnP (stm 0), body := .stmts (fnB (stm 0)), scope := fnS (stm 0), globals := 3, closure := [], defaults := .none, kwdefaults := .none, doc := .none, pyModule := (.str (Str.ofString "__main__") 164), annotations := none, code := (.ref 20), closureTuple := .none, builtins := 0 }, slots := #[] }
noncomputable def x3v2 (P : Params) : Obj := { cls := (.type "dict"), dict := none, data := .dict #[⟨PyData.keyHash P (Str.ofString "__name__"), (.str (Str.ofString "__name__") 165), (.str (Str.ofString "cpy313.email.header") 194)⟩, ⟨PyData.keyHash P (Str.ofString "__doc__"), (.str (Str.ofString "__doc__") 166), .none⟩, ⟨PyData.keyHash P (Str.ofString "__package__"), (.str (Str.ofString "__package__") 167), .none⟩, ⟨PyData.keyHash P (Str.ofString "__loader__"), (.str (Str.ofString "__loader__") 168), (.builtin "__main__.__loader__#opaque")⟩, ⟨PyData.keyHash P (Str.ofString "__spec__"), (.str (Str.ofString "__spec__") 169), .none⟩, ⟨PyData.keyHash P (Str.ofString "__annotations__"), (.str (Str.ofString "__annotations__") 170), (.ref 6)⟩, ⟨PyData.keyHash P (Str.ofString "__builtins__"), (.str (Str.ofString "__builtins__") 171), (.ref 4)⟩, ⟨PyData.keyHash P (Str.ofString "__file__"), (.str (Str.ofString "__file__") 173), (.str (Str.ofString "/claim/cut.py") 172)⟩, ⟨PyData.keyHash P (Str.ofString "__cached__"), (.str (Str.ofString "__cached__") 174), .none⟩, ⟨PyData.keyHash P (Str.ofString "_wall"), (.str (Str.ofString "_wall") 193), (.ref 21)⟩, ⟨PyData.keyHash P (Str.ofString "EMPTYSTRING"), (.str (Str.ofString "EMPTYSTRING") 197), (.str (Str.ofString "") 196)⟩, ⟨PyData.keyHash P (Str.ofString "_Accumulator"), (.str (Str.ofString "_Accumulator") 292), (.ref 101)⟩] 12, slots := #[] }
noncomputable def x12v2 (P : Params) : Obj := { cls := .none, dict := none, data := .fields #[(.int 1 0), (.int 0 0), (.ref 20), (.int 6 0), (.int 0 0), (.ref 28)], slots := #[] }
noncomputable def x22v0 (P : Params) : Obj := { cls := (.type "tuple"), dict := none, data := .seq #[(.type "list")] 0, slots := #[] }
noncomputable def x23v0 (P : Params) : Obj := { cls := (.type "builtin_function_or_method"), dict := none, data := .fields #[(.builtin "type.__prepare__"), (.type "type")], slots := #[] }
noncomputable def x24v0 (P : Params) : Obj := { cls := (.type "dict"), dict := none, data := .dict #[⟨PyData.keyHash P (Str.ofString "__module__"), (.str (Str.ofString "__module__") 205), (.str (Str.ofString "cpy313.email.header") 194)⟩, ⟨PyData.keyHash P (Str.ofString "__qualname__"), (.str (Str.ofString "__qualname__") 207), (.str (Str.ofString "_Accumulator") 206)⟩, ⟨PyData.keyHash P (Str.ofString "__firstlineno__"), (.str (Str.ofString "__firstlineno__") 209), (.int 6 208)⟩, ⟨PyData.keyHash P (Str.ofString "__init__"), (.str (Str.ofString "__init__") 219), (.ref 38)⟩, ⟨PyData.keyHash P (Str.ofString "push"), (.str (Str.ofString "push") 228), (.ref 45)⟩, ⟨PyData.keyHash P (Str.ofString "pop_from"), (.str (Str.ofString "pop_from") 237), (.ref 53)⟩, ⟨PyData.keyHash P (Str.ofString "pop"), (.str (Str.ofString "pop") 245), (.ref 61)⟩, ⟨PyData.keyHash P (Str.ofString "__len__"), (.str (Str.ofString "__len__") 252), (.ref 68)⟩, ⟨PyData.keyHash P (Str.ofString "__str__"), (.str (Str.ofString "__str__") 259), (.ref 75)⟩, ⟨PyData.keyHash P (Str.ofString "reset"), (.str (Str.ofString "reset") 267), (.ref 83)⟩, ⟨PyData.keyHash P (Str.ofString "is_onlyws"), (.str (Str.ofString "is_onlyws") 274), (.ref 90)⟩, ⟨PyData.keyHash P (Str.ofString "part_count"), (.str (Str.ofString "part_count") 282), (.ref 98)⟩, ⟨PyData.keyHash P (Str.ofString "__static_attributes__"), (.str (Str.ofString "__static_attributes__") 284), (.ref 99)⟩, ⟨PyData.keyHash P (Str.ofString "__classcell__"), (.str (Str.ofString "__classcell__") 285), (.ref 25)⟩] 14, slots := #[] }
noncomputable def x25v0 (P : Params) : Obj := { cls := (.type "cell"), dict := none, data := .cell (some (.ref 101)), slots := #[] }
noncomputable def x26v0 (P : Params) : Obj := { cls := (.type "tuple"), dict := none, data := .seq #[] 0, slots := #[] }
noncomputable def x27v0 (P : Params) : Obj := { cls := .none, dict := none, data := .fields #[(.int 8 0), (.int 4 0), (.ref 37), (.int 12 0), (.int 4 0), (.ref 44), (.int 15 0), (.int 4 0), (.ref 52), (.int 18 0), (.int 4 0), (.ref 60), (.int 23 0), (.int 4 0), (.ref 67), (.int 26 0), (.int 4 0), (.ref 74), (.int 29 0), (.int 4 0), (.ref 82), (.int 32 0), (.int 4 0), (.ref 89), (.int 35 0), (.int 4 0), (.ref 97)], slots := #[] }
noncomputable def x28v0 (P : Params) : Obj := { cls := (.type "code"), dict := none, data := .fields #[(.str (Str.ofString "_Accumulator") 200), (.str (Str.ofString "_Accumulator") 201), (.str (Str.ofString "/claim/cut.py") 202), (.int 6 0), (.int 0 0), (.int 0 0), (.int 0 0), (.int 0 0), (.ref 26), (.bool false), (.int 181 0), (.ref 27), .none, .none, .none, .none, (.int 203 0), (.int 6 0), (.str (Str.ofString "/claim/cut.py") 204)], slots := #[] }
noncomputable def x29v0 (P : Params) : Obj := { cls := (.type "frame"), dict := none, data := .plain, slots := #[(some (.ref 28)), (some (.ref 3)), (some (.ref 24)), none, (some (.str (Str.ofString "cpy313.email.header") 194)), none, (some (.ref 0))] }
noncomputable def x30v0 (P : Params) : Obj := { cls := (.type "tuple"), dict := none, data := .seq #[(.int 0 210)] 0, slots := #[] }
noncomputable def x31v0 (P : Params) : Obj := { cls := (.type "tuple"), dict := none, data := .seq #[(.ref 25)] 0, slots := #[] }
noncomputable def x32v0 (P : Params) : Obj := { cls := (.type "tuple"), dict := none, data := .seq #[(.str (Str.ofString "__class__") 214)] 0, slots := #[] }
noncomputable def x33v0 (P : Params) : Obj := { cls := .none, dict := none, data := .fields #[], slots := #[] }
noncomputable def x34v0 (P : Params) : Obj := { cls := (.type "tuple"), dict := none, data := .seq #[(.str (Str.ofString "self") 215), (.str (Str.ofString "initial_size") 216)] 0, slots := #[] }
noncomputable def x35v0 (P : Params) : Obj := { cls := (.type "tuple"), dict := none, data := .seq #[] 0, slots := #[] }
noncomputable def x36v0 (P : Params) : Obj := { cls := .none, dict := none, data := .func { name := (Str.ofString "__init__"), qualname := (Str.ofString "_Accumulator.__init__"), params := fnP (mth 0), body := .stmts (fnB (mth 0)), scope := fnS (mth 0), globals := 0, closure := [], defaults := .none, kwdefaults := .none, doc := .none, pyModule := .none, annotations := none, code := .none, closureTuple := .none, builtins := 0 }, slots := #[] }
noncomputable def x37v0 (P : Params) : Obj := { cls := (.type "code"), dict := none, data := .fields #[(.str (Str.ofString "__init__") 211), (.str (Str.ofString "_Accumulator.__init__") 212), (.str (Str.ofString "/claim/cut.py") 213), (.int 8 0), (.int 2 0), (.int 0 0), (.int 0 0), (.int 3 0), (.ref 32), (.bool true), (.int 181 0), (.ref 33), .none, (.ref 34), (.ref 35), (.ref 36), (.int 217 0), (.int 8 0), (.str (Str.ofString "/claim/cut.py") 218)], slots := #[] }
noncomputable def x38v0 (P : Params) : Obj := { cls := (.type "function"), dict := none, data := .func { name := (Str.ofString "__init__"), qualname := (Str.ofString "_Accumulator.__init__"), params := fnP (mth 0), body := .stmts (fnB (mth 0)), scope := fnS (mth 0), globals := 3, closure := [((Str.ofString "__class__"), 25)], defaults := (.ref 30), kwdefaults := .none, doc := .none, pyModule := (.str (Str.ofString "cpy313.email.header") 194), annotations := none, code := (.ref 37), closureTuple := (.ref 31), builtins := 0 }, slots := #[] }
noncomputable def x39v0 (P : Params) : Obj := { cls := (.type "tuple"), dict := none, data := .seq #[] 0, slots := #[] }
noncomputable def x40v0 (P : Params) : Obj := { cls := .none, dict := none, data := .fields #[], slots := #[] }
noncomputable def x41v0 (P : Params) : Obj := { cls := (.type "tuple"), dict := none, data := .seq #[(.str (Str.ofString "self") 223), (.str (Str.ofString "fws") 224), (.str (Str.ofString "string") 225)] 0, slots := #[] }
noncomputable def x42v0 (P : Params) : Obj := { cls := (.type "tuple"), dict := none, data := .seq #[] 0, slots := #[] }
noncomputable def x43v0 (P : Params) : Obj := { cls := .none, dict := none, data := .func { name := (Str.ofString "push"), qualname := (Str.ofString "_Accumulator.push"), params := fnP (mth 1), body := .stmts (fnB (mth 1)), scope := fnS (mth 1), globals := 0, closure := [], defaults := .none, kwdefaults := .none, doc := .none, pyModule := .none, annotations := none, code := .none, closureTuple := .none, builtins := 0 }, slots := #[] }
noncomputable def x44v0 (P : Params) : Obj := { cls := (.type "code"), dict := none, data := .fields #[(.str (Str.ofString "push") 220), (.str (Str.ofString "_Accumulator.push") 221), (.str (Str.ofString "/claim/cut.py") 222), (.int 12 0), (.int 3 0), (.int 0 0), (.int 0 0), (.int 3 0), (.ref 39), (.bool true), (.int 181 0), (.ref 40), .none, (.ref 41), (.ref 42), (.ref 43), (.int 226 0), (.int 12 0), (.str (Str.ofString "/claim/cut.py") 227)], slots := #[] }
noncomputable def x45v0 (P : Params) : Obj := { cls := (.type "function"), dict := none, data := .func { name := (Str.ofString "push"), qualname := (Str.ofString "_Accumulator.push"), params := fnP (mth 1), body := .stmts (fnB (mth 1)), scope := fnS (mth 1), globals := 3, closure := [], defaults := .none, kwdefaults := .none, doc := .none, pyModule := (.str (Str.ofString "cpy313.email.header") 194), annotations := none, code := (.ref 44), closureTuple := .none, builtins := 0 }, slots := #[] }
noncomputable def x46v0 (P : Params) : Obj := { cls := (.type "tuple"), dict := none, data := .seq #[(.int 0 229)] 0, slots := #[] }
noncomputable def x47v0 (P : Params) : Obj := { cls := (.type "tuple"), dict := none, data := .seq #[] 0, slots := #[] }
noncomputable def x48v0 (P : Params) : Obj := { cls := .none, dict := none, data := .fields #[], slots := #[] }
noncomputable def x49v0 (P : Params) : Obj := { cls := (.type "tuple"), dict := none, data := .seq #[(.str (Str.ofString "self") 233), (.str (Str.ofString "i") 234)] 0, slots := #[] }
noncomputable def x50v0 (P : Params) : Obj := { cls := (.type "tuple"), dict := none, data := .seq #[] 0, slots := #[] }
noncomputable def x51v0 (P : Params) : Obj := { cls := .none, dict := none, data := .func { name := (Str.ofString "pop_from"), qualname := (Str.ofString "_Accumulator.pop_from"), params := fnP (mth 2), body := .stmts (fnB (mth 2)), scope := fnS (mth 2), globals := 0, closure := [], defaults := .none, kwdefaults := .none, doc := .none, pyModule := .none, annotations := none, code := .none, closureTuple := .none, builtins := 0 }, slots := #[] }
noncomputable def x52v0 (P : Params) : Obj := { cls := (.type "code"), dict := none, data := .fields #[(.str (Str.ofString "pop_from") 230), (.str (Str.ofString "_Accumulator.pop_from") 231), (.str (Str.ofString "/claim/cut.py") 232), (.int 15 0), (.int 2 0), (.int 0 0), (.int 0 0), (.int 3 0), (.ref 47), (.bool true), (.int 181 0), (.ref 48), .none, (.ref 49), (.ref 50), (.ref 51), (.int 235 0), (.int 15 0), (.str (Str.ofString "/claim/cut.py") 236)], slots := #[] }
noncomputable def x53v0 (P : Params) : Obj := { cls := (.type "function"), dict := none, data := .func { name := (Str.ofString "pop_from"), qualname := (Str.ofString "_Accumulator.pop_from"), params := fnP (mth 2), body := .stmts (fnB (mth 2)), scope := fnS (mth 2), globals := 3, closure := [], defaults := (.ref 46), kwdefaults := .none, doc := .none, pyModule := (.str (Str.ofString "cpy313.email.header") 194), annotations := none, code := (.ref 52), closureTuple := .none, builtins := 0 }, slots := #[] }
noncomputable def x54v0 (P : Params) : Obj := { cls := (.type "tuple"), dict := none, data := .seq #[(.ref 25)] 0, slots := #[] }
noncomputable def x55v0 (P : Params) : Obj := { cls := (.type "tuple"), dict := none, data := .seq #[(.str (Str.ofString "__class__") 241)] 0, slots := #[] }
noncomputable def x56v0 (P : Params) : Obj := { cls := .none, dict := none, data := .fields #[], slots := #[] }
noncomputable def x57v0 (P : Params) : Obj := { cls := (.type "tuple"), dict := none, data := .seq #[(.str (Str.ofString "self") 242)] 0, slots := #[] }
noncomputable def x58v0 (P : Params) : Obj := { cls := (.type "tuple"), dict := none, data := .seq #[] 0, slots := #[] }
noncomputable def x59v0 (P : Params) : Obj := { cls := .none, dict := none, data := .func { name := (Str.ofString "pop"), qualname := (Str.ofString "_Accumulator.pop"), params := fnP (mth 3), body := .stmts (fnB (mth 3)), scope := fnS (mth 3), globals := 0, closure := [], defaults := .none, kwdefaults := .none, doc := .none, pyModule := .none, annotations := none, code := .none, closureTuple := .none, builtins := 0 }, slots := #[] }
noncomputable def x60v0 (P : Params) : Obj := { cls := (.type "code"), dict := none, data := .fields #[(.str (Str.ofString "pop") 238), (.str (Str.ofString "_Accumulator.pop") 239), (.str (Str.ofString "/claim/cut.py") 240), (.int 18 0), (.int 1 0), (.int 0 0), (.int 0 0), (.int 3 0), (.ref 55), (.bool true), (.int 181 0), (.ref 56), .none, (.ref 57), (.ref 58), (.ref 59), (.int 243 0), (.int 18 0), (.str (Str.ofString "/claim/cut.py") 244)], slots := #[] }
noncomputable def x61v0 (P : Params) : Obj := { cls := (.type "function"), dict := none, data := .func { name := (Str.ofString "pop"), qualname := (Str.ofString "_Accumulator.pop"), params := fnP (mth 3), body := .stmts (fnB (mth 3)), scope := fnS (mth 3), globals := 3, closure := [((Str.ofString "__class__"), 25)], defaults := .none, kwdefaults := .none, doc := .none, pyModule := (.str (Str.ofString "cpy313.email.header") 194), annotations := none, code := (.ref 60), closureTuple := (.ref 54), builtins := 0 }, slots := #[] }
noncomputable def x62v0 (P : Params) : Obj := { cls := (.type "tuple"), dict := none, data := .seq #[] 0, slots := #[] }
noncomputable def x63v0 (P : Params) : Obj := { cls := .none, dict := none, data := .fields #[], slots := #[] }
noncomputable def x64v0 (P : Params) : Obj := { cls := (.type "tuple"), dict := none, data := .seq #[(.str (Str.ofString "self") 249)] 0, slots := #[] }
noncomputable def x65v0 (P : Params) : Obj := { cls := (.type "tuple"), dict := none, data := .seq #[] 0, slots := #[] }
noncomputable def x66v0 (P : Params) : Obj := { cls := .none, dict := none, data := .func { name := (Str.ofString "__len__"), qualname := (Str.ofString "_Accumulator.__len__"), params := fnP (mth 4), body := .stmts (fnB (mth 4)), scope := fnS (mth 4), globals := 0, closure := [], defaults := .none, kwdefaults := .none, doc := .none, pyModule := .none, annotations := none, code := .none, closureTuple := .none, builtins := 0 }, slots := #[] }
noncomputable def x67v0 (P : Params) : Obj := { cls := (.type "code"), dict := none, data := .fields #[(.str (Str.ofString "__len__") 246), (.str (Str.ofString "_Accumulator.__len__") 247), (.str (Str.ofString "/claim/cut.py") 248), (.int 23 0), (.int 1 0), (.int 0 0), (.int 0 0), (.int 3 0), (.ref 62), (.bool true), (.int 181 0), (.ref 63), .none, (.ref 64), (.ref 65), (.ref 66), (.int 250 0), (.int 23 0), (.str (Str.ofString "/claim/cut.py") 251)], slots := #[] }
noncomputable def x68v0 (P : Params) : Obj := { cls := (.type "function"), dict := none, data := .func { name := (Str.ofString "__len__"), qualname := (Str.ofString "_Accumulator.__len__"), params := fnP (mth 4), body := .stmts (fnB (mth 4)), scope := fnS (mth 4), globals := 3, closure := [], defaults := .none, kwdefaults := .none, doc := .none, pyModule := (.str (Str.ofString "cpy313.email.header") 194), annotations := none, code := (.ref 67), closureTuple := .none, builtins := 0 }, slots := #[] }
noncomputable def x69v0 (P : Params) : Obj := { cls := (.type "tuple"), dict := none, data := .seq #[] 0, slots := #[] }
noncomputable def x70v0 (P : Params) : Obj := { cls := .none, dict := none, data := .fields #[], slots := #[] }
noncomputable def x71v0 (P : Params) : Obj := { cls := (.type "tuple"), dict := none, data := .seq #[(.str (Str.ofString "self") 256)] 0, slots := #[] }
noncomputable def x72v0 (P : Params) : Obj := { cls := (.type "tuple"), dict := none, data := .seq #[] 0, slots := #[] }
noncomputable def x73v0 (P : Params) : Obj := { cls := .none, dict := none, data := .func { name := (Str.ofString "__str__"), qualname := (Str.ofString "_Accumulator.__str__"), params := fnP (mth 5), body := .stmts (fnB (mth 5)), scope := fnS (mth 5), globals := 0, closure := [], defaults := .none, kwdefaults := .none, doc := .none, pyModule := .none, annotations := none, code := .none, closureTuple := .none, builtins := 0 }, slots := #[] }
noncomputable def x74v0 (P : Params) : Obj := { cls := (.type "code"), dict := none, data := .fields #[(.str (Str.ofString "__str__") 253), (.str (Str.ofString "_Accumulator.__str__") 254), (.str (Str.ofString "/claim/cut.py") 255), (.int 26 0), (.int 1 0), (.int 0 0), (.int 0 0), (.int 3 0), (.ref 69), (.bool true), (.int 181 0), (.ref 70), .none, (.ref 71), (.ref 72), (.ref 73), (.int 257 0), (.int 26 0), (.str (Str.ofString "/claim/cut.py") 258)], slots := #[] }
noncomputable def x75v0 (P : Params) : Obj := { cls := (.type "function"), dict := none, data := .func { name := (Str.ofString "__str__"), qualname := (Str.ofString "_Accumulator.__str__"), params := fnP (mth 5), body := .stmts (fnB (mth 5)), scope := fnS (mth 5), globals := 3, closure := [], defaults := .none, kwdefaults := .none, doc := .none, pyModule := (.str (Str.ofString "cpy313.email.header") 194), annotations := none, code := (.ref 74), closureTuple := .none, builtins := 0 }, slots := #[] }
noncomputable def x76v0 (P : Params) : Obj := { cls := (.type "tuple"), dict := none, data := .seq #[.none] 0, slots := #[] }
noncomputable def x77v0 (P : Params) : Obj := { cls := (.type "tuple"), dict := none, data := .seq #[] 0, slots := #[] }
noncomputable def x78v0 (P : Params) : Obj := { cls := .none, dict := none, data := .fields #[], slots := #[] }
noncomputable def x79v0 (P : Params) : Obj := { cls := (.type "tuple"), dict := none, data := .seq #[(.str (Str.ofString "self") 263), (.str (Str.ofString "startval") 264)] 0, slots := #[] }
noncomputable def x80v0 (P : Params) : Obj := { cls := (.type "tuple"), dict := none, data := .seq #[] 0, slots := #[] }
noncomputable def x81v0 (P : Params) : Obj := { cls := .none, dict := none, data := .func { name := (Str.ofString "reset"), qualname := (Str.ofString "_Accumulator.reset"), params := fnP (mth 6), body := .stmts (fnB (mth 6)), scope := fnS (mth 6), globals := 0, closure := [], defaults := .none, kwdefaults := .none, doc := .none, pyModule := .none, annotations := none, code := .none, closureTuple := .none, builtins := 0 }, slots := #[] }
noncomputable def x82v0 (P : Params) : Obj := { cls := (.type "code"), dict := none, data := .fields #[(.str (Str.ofString "reset") 260), (.str (Str.ofString "_Accumulator.reset") 261), (.str (Str.ofString "/claim/cut.py") 262), (.int 29 0), (.int 2 0), (.int 0 0), (.int 0 0), (.int 3 0), (.ref 77), (.bool true), (.int 181 0), (.ref 78), .none, (.ref 79), (.ref 80), (.ref 81), (.int 265 0), (.int 29 0), (.str (Str.ofString "/claim/cut.py") 266)], slots := #[] }
noncomputable def x83v0 (P : Params) : Obj := { cls := (.type "function"), dict := none, data := .func { name := (Str.ofString "reset"), qualname := (Str.ofString "_Accumulator.reset"), params := fnP (mth 6), body := .stmts (fnB (mth 6)), scope := fnS (mth 6), globals := 3, closure := [], defaults := (.ref 76), kwdefaults := .none, doc := .none, pyModule := (.str (Str.ofString "cpy313.email.header") 194), annotations := none, code := (.ref 82), closureTuple := .none, builtins := 0 }, slots := #[] }
noncomputable def x84v0 (P : Params) : Obj := { cls := (.type "tuple"), dict := none, data := .seq #[] 0, slots := #[] }
noncomputable def x85v0 (P : Params) : Obj := { cls := .none, dict := none, data := .fields #[], slots := #[] }
noncomputable def x86v0 (P : Params) : Obj := { cls := (.type "tuple"), dict := none, data := .seq #[(.str (Str.ofString "self") 271)] 0, slots := #[] }
noncomputable def x87v0 (P : Params) : Obj := { cls := (.type "tuple"), dict := none, data := .seq #[] 0, slots := #[] }
noncomputable def x88v0 (P : Params) : Obj := { cls := .none, dict := none, data := .func { name := (Str.ofString "is_onlyws"), qualname := (Str.ofString "_Accumulator.is_onlyws"), params := fnP (mth 7), body := .stmts (fnB (mth 7)), scope := fnS (mth 7), globals := 0, closure := [], defaults := .none, kwdefaults := .none, doc := .none, pyModule := .none, annotations := none, code := .none, closureTuple := .none, builtins := 0 }, slots := #[] }
noncomputable def x89v0 (P : Params) : Obj := { cls := (.type "code"), dict := none, data := .fields #[(.str (Str.ofString "is_onlyws") 268), (.str (Str.ofString "_Accumulator.is_onlyws") 269), (.str (Str.ofString "/claim/cut.py") 270), (.int 32 0), (.int 1 0), (.int 0 0), (.int 0 0), (.int 3 0), (.ref 84), (.bool true), (.int 181 0), (.ref 85), .none, (.ref 86), (.ref 87), (.ref 88), (.int 272 0), (.int 32 0), (.str (Str.ofString "/claim/cut.py") 273)], slots := #[] }
noncomputable def x90v0 (P : Params) : Obj := { cls := (.type "function"), dict := none, data := .func { name := (Str.ofString "is_onlyws"), qualname := (Str.ofString "_Accumulator.is_onlyws"), params := fnP (mth 7), body := .stmts (fnB (mth 7)), scope := fnS (mth 7), globals := 3, closure := [], defaults := .none, kwdefaults := .none, doc := .none, pyModule := (.str (Str.ofString "cpy313.email.header") 194), annotations := none, code := (.ref 89), closureTuple := .none, builtins := 0 }, slots := #[] }
noncomputable def x91v0 (P : Params) : Obj := { cls := (.type "tuple"), dict := none, data := .seq #[(.ref 25)] 0, slots := #[] }
noncomputable def x92v0 (P : Params) : Obj := { cls := (.type "tuple"), dict := none, data := .seq #[(.str (Str.ofString "__class__") 278)] 0, slots := #[] }
noncomputable def x93v0 (P : Params) : Obj := { cls := .none, dict := none, data := .fields #[], slots := #[] }
noncomputable def x94v0 (P : Params) : Obj := { cls := (.type "tuple"), dict := none, data := .seq #[(.str (Str.ofString "self") 279)] 0, slots := #[] }
noncomputable def x95v0 (P : Params) : Obj := { cls := (.type "tuple"), dict := none, data := .seq #[] 0, slots := #[] }
noncomputable def x96v0 (P : Params) : Obj := { cls := .none, dict := none, data := .func { name := (Str.ofString "part_count"), qualname := (Str.ofString "_Accumulator.part_count"), params := fnP (mth 8), body := .stmts (fnB (mth 8)), scope := fnS (mth 8), globals := 0, closure := [], defaults := .none, kwdefaults := .none, doc := .none, pyModule := .none, annotations := none, code := .none, closureTuple := .none, builtins := 0 }, slots := #[] }
noncomputable def x97v0 (P : Params) : Obj := { cls := (.type "code"), dict := none, data := .fields #[(.str (Str.ofString "part_count") 275), (.str (Str.ofString "_Accumulator.part_count") 276), (.str (Str.ofString "/claim/cut.py") 277), (.int 35 0), (.int 1 0), (.int 0 0), (.int 0 0), (.int 3 0), (.ref 92), (.bool true), (.int 181 0), (.ref 93), .none, (.ref 94), (.ref 95), (.ref 96), (.int 280 0), (.int 35 0), (.str (Str.ofString "/claim/cut.py") 281)], slots := #[] }
noncomputable def x98v0 (P : Params) : Obj := { cls := (.type "function"), dict := none, data := .func { name := (Str.ofString "part_count"), qualname := (Str.ofString "_Accumulator.part_count"), params := fnP (mth 8), body := .stmts (fnB (mth 8)), scope := fnS (mth 8), globals := 3, closure := [((Str.ofString "__class__"), 25)], defaults := .none, kwdefaults := .none, doc := .none, pyModule := (.str (Str.ofString "cpy313.email.header") 194), annotations := none, code := (.ref 97), closureTuple := (.ref 91), builtins := 0 }, slots := #[] }
noncomputable def x99v0 (P : Params) : Obj := { cls := (.type "tuple"), dict := none, data := .seq #[(.str (Str.ofString "_initial_size") 283)] 0, slots := #[] }
noncomputable def x100v0 (P : Params) : Obj := { cls := (.type "dict"), dict := none, data := .dict #[⟨PyData.keyHash P (Str.ofString "__module__"), (.str (Str.ofString "__module__") 205), (.str (Str.ofString "cpy313.email.header") 194)⟩, ⟨PyData.keyHash P (Str.ofString "__firstlineno__"), (.str (Str.ofString "__firstlineno__") 209), (.int 6 208)⟩, ⟨PyData.keyHash P (Str.ofString "__init__"), (.str (Str.ofString "__init__") 219), (.ref 38)⟩, ⟨PyData.keyHash P (Str.ofString "push"), (.str (Str.ofString "push") 228), (.ref 45)⟩, ⟨PyData.keyHash P (Str.ofString "pop_from"), (.str (Str.ofString "pop_from") 237), (.ref 53)⟩, ⟨PyData.keyHash P (Str.ofString "pop"), (.str (Str.ofString "pop") 245), (.ref 61)⟩, ⟨PyData.keyHash P (Str.ofString "__len__"), (.str (Str.ofString "__len__") 252), (.ref 68)⟩, ⟨PyData.keyHash P (Str.ofString "__str__"), (.str (Str.ofString "__str__") 259), (.ref 75)⟩, ⟨PyData.keyHash P (Str.ofString "reset"), (.str (Str.ofString "reset") 267), (.ref 83)⟩, ⟨PyData.keyHash P (Str.ofString "is_onlyws"), (.str (Str.ofString "is_onlyws") 274), (.ref 90)⟩, ⟨PyData.keyHash P (Str.ofString "part_count"), (.str (Str.ofString "part_count") 282), (.ref 98)⟩, ⟨PyData.keyHash P (Str.ofString "__static_attributes__"), (.str (Str.ofString "__static_attributes__") 284), (.ref 99)⟩, ⟨PyData.keyHash P (Str.ofString "__dict__"), (.str (Str.ofString "__dict__") 287), (.ref 102)⟩, ⟨PyData.keyHash P (Str.ofString "__weakref__"), (.str (Str.ofString "__weakref__") 289), (.ref 103)⟩, ⟨PyData.keyHash P (Str.ofString "__doc__"), (.str (Str.ofString "__doc__") 290), .none⟩] 5, slots := #[] }
noncomputable def x101v0 (P : Params) : Obj := { cls := (.type "type"), dict := none, data := .cls { name := (Str.ofString "_Accumulator"), bases := [(.type "list")], mro := [(.ref 101), (.type "list"), (.type "object")], ns := 100, qualname := (Str.ofString "_Accumulator"), hasDict := true, slotNames := [], subclasses := [], abstract := false, collection := none, hasDel := false }, slots := #[(some (.ref 22)), none, (some (.str (Str.ofString "_Accumulator") 198)), (some (.str (Str.ofString "_Accumulator") 206)), (some (.builtin "list.__new__")), (some (.bool true))] }
noncomputable def x102v0 (P : Params) : Obj := { cls := (.type "getset_descriptor"), dict := none, data := .fields #[(.str (Str.ofString "__dict__") 286), (.ref 101), (.builtin "function.__dict__"), (.builtin "function.__dict__#set")], slots := #[] }
noncomputable def x103v0 (P : Params) : Obj := { cls := (.type "getset_descriptor"), dict := none, data := .fields #[(.str (Str.ofString "__weakref__") 288), (.ref 101), (.builtin "ExceptionGroup.__weakref__"), .none], slots := #[] }
noncomputable def x104v0 (P : Params) : Obj := { cls := (.type "super"), dict := none, data := .fields #[(.ref 101), (.ref 101), (.ref 101)], slots := #[] }
noncomputable def x105v0 (P : Params) : Obj := { cls := (.type "builtin_function_or_method"), dict := none, data := .fields #[(.builtin "object.__init_subclass__"), (.ref 101)], slots := #[] }
noncomputable def x3v3 (P : Params) : Obj := { cls := (.type "dict"), dict := none, data := .dict #[⟨PyData.keyHash P (Str.ofString "__name__"), (.str (Str.ofString "__name__") 165), (.str (Str.ofString "cpy313.stringprep") 303)⟩, ⟨PyData.keyHash P (Str.ofString "__doc__"), (.str (Str.ofString "__doc__") 166), .none⟩, ⟨PyData.keyHash P (Str.ofString "__package__"), (.str (Str.ofString "__package__") 167), .none⟩, ⟨PyData.keyHash P (Str.ofString "__loader__"), (.str (Str.ofString "__loader__") 168), (.builtin "__main__.__loader__#opaque")⟩, ⟨PyData.keyHash P (Str.ofString "__spec__"), (.str (Str.ofString "__spec__") 169), .none⟩, ⟨PyData.keyHash P (Str.ofString "__annotations__"), (.str (Str.ofString "__annotations__") 170), (.ref 6)⟩, ⟨PyData.keyHash P (Str.ofString "__builtins__"), (.str (Str.ofString "__builtins__") 171), (.ref 4)⟩, ⟨PyData.keyHash P (Str.ofString "__file__"), (.str (Str.ofString "__file__") 173), (.str (Str.ofString "/claim/cut.py") 172)⟩, ⟨PyData.keyHash P (Str.ofString "__cached__"), (.str (Str.ofString "__cached__") 174), .none⟩, ⟨PyData.keyHash P (Str.ofString "_wall"), (.str (Str.ofString "_wall") 193), (.ref 21)⟩, ⟨PyData.keyHash P (Str.ofString "EMPTYSTRING"), (.str (Str.ofString "EMPTYSTRING") 197), (.str (Str.ofString "") 196)⟩, ⟨PyData.keyHash P (Str.ofString "_Accumulator"), (.str (Str.ofString "_Accumulator") 292), (.ref 101)⟩, ⟨PyData.keyHash P (Str.ofString "_strcoll"), (.str (Str.ofString "_strcoll") 302), (.ref 112)⟩] 13, slots := #[] }
noncomputable def x12v3 (P : Params) : Obj := { cls := .none, dict := none, data := .fields #[(.int 1 0), (.int 0 0), (.ref 20), (.int 6 0), (.int 0 0), (.ref 28), (.int 38 0), (.int 0 0), (.ref 111)], slots := #[] }
noncomputable def x106v0 (P : Params) : Obj := { cls := (.type "tuple"), dict := none, data := .seq #[] 0, slots := #[] }
noncomputable def x107v0 (P : Params) : Obj := { cls := .none, dict := none, data := .fields #[], slots := #[] }
noncomputable def x108v0 (P : Params) : Obj := { cls := (.type "tuple"), dict := none, data := .seq #[(.str (Str.ofString "a") 298), (.str (Str.ofString "b") 299)] 0, slots := #[] }
noncomputable def x109v0 (P : Params) : Obj := { cls := (.type "tuple"), dict := none, data := .seq #[] 0, slots := #[] }
noncomputable def x110v0 (P : Params) : Obj := { cls := .none, dict := none, data := .func { name := (Str.ofString "_strcoll"), qualname := (Str.ofString "_strcoll"), params := fnP (stm 5), body := .stmts (fnB (stm 5)), scope := fnS (stm 5), globals := 0, closure := [], defaults := .none, kwdefaults := .none, doc := .none, pyModule := .none, annotations := none, code := .none, closureTuple := .none, builtins := 0 }, slots := #[] }
noncomputable def x111v0 (P : Params) : Obj := { cls := (.type "code"), dict := none, data := .fields #[(.str (Str.ofString "_strcoll") 295), (.str (Str.ofString "_strcoll") 296), (.str (Str.ofString "/claim/cut.py") 297), (.int 38 0), (.int 2 0), (.int 0 0), (.int 0 0), (.int 3 0), (.ref 106), (.bool true), (.int 181 0), (.ref 107), .none, (.ref 108), (.ref 109), (.ref 110), (.int 300 0), (.int 38 0), (.str (Str.ofString "/claim/cut.py") 301)], slots := #[] }
noncomputable def x112v0 (P : Params) : Obj := { cls := (.type "function"), dict := none, data := .func { name := (Str.ofString "_strcoll"), qualname := (Str.ofString "_strcoll"), params := fnP (stm 5), body := .stmts (fnB (stm 5)), scope := fnS (stm 5), globals := 3, closure := [], defaults := .none, kwdefaults := .none, doc := .none, pyModule := (.str (Str.ofString "cpy313.locale") 293), annotations := none, code := (.ref 111), closureTuple := .none, builtins := 0 }, slots := #[] }
noncomputable def x3v4 (P : Params) : Obj := { cls := (.type "dict"), dict := none, data := .dict #[⟨PyData.keyHash P (Str.ofString "__name__"), (.str (Str.ofString "__name__") 165), (.str (Str.ofString "cpy313.stringprep") 303)⟩, ⟨PyData.keyHash P (Str.ofString "__doc__"), (.str (Str.ofString "__doc__") 166), .none⟩, ⟨PyData.keyHash P (Str.ofString "__package__"), (.str (Str.ofString "__package__") 167), .none⟩, ⟨PyData.keyHash P (Str.ofString "__loader__"), (.str (Str.ofString "__loader__") 168), (.builtin "__main__.__loader__#opaque")⟩, ⟨PyData.keyHash P (Str.ofString "__spec__"), (.str (Str.ofString "__spec__") 169), .none⟩, ⟨PyData.keyHash P (Str.ofString "__annotations__"), (.str (Str.ofString "__annotations__") 170), (.ref 6)⟩, ⟨PyData.keyHash P (Str.ofString "__builtins__"), (.str (Str.ofString "__builtins__") 171), (.ref 4)⟩, ⟨PyData.keyHash P (Str.ofString "__file__"), (.str (Str.ofString "__file__") 173), (.str (Str.ofString "/claim/cut.py") 172)⟩, ⟨PyData.keyHash P (Str.ofString "__cached__"), (.str (Str.ofString "__cached__") 174), .none⟩, ⟨PyData.keyHash P (Str.ofString "_wall"), (.str (Str.ofString "_wall") 193), (.ref 21)⟩, ⟨PyData.keyHash P (Str.ofString "EMPTYSTRING"), (.str (Str.ofString "EMPTYSTRING") 197), (.str (Str.ofString "") 196)⟩, ⟨PyData.keyHash P (Str.ofString "_Accumulator"), (.str (Str.ofString "_Accumulator") 292), (.ref 101)⟩, ⟨PyData.keyHash P (Str.ofString "_strcoll"), (.str (Str.ofString "_strcoll") 302), (.ref 112)⟩, ⟨PyData.keyHash P (Str.ofString "c7_set"), (.str (Str.ofString "c7_set") 332), (.ref 114)⟩] 14, slots := #[] }
noncomputable def x113v0 (P : Params) : Obj := { cls := (.type "range"), dict := none, data := .fields #[(.int 12272 305), (.int 12284 306), (.int 1 307)], slots := #[] }
noncomputable def x114v0 (P : Params) : Obj := { cls := (.type "set"), dict := none, data := .set #[(12272, (.int 12272 308)), (12273, (.int 12273 310)), (12274, (.int 12274 312)), (12275, (.int 12275 314)), (12276, (.int 12276 316)), (12277, (.int 12277 318)), (12278, (.int 12278 320)), (12279, (.int 12279 322)), (12280, (.int 12280 324)), (12281, (.int 12281 326)), (12282, (.int 12282 328)), (12283, (.int 12283 330))] 13 { mask := 31, place := #[16, 17, 18, 19, 20, 21, 22, 23, 24, 25, 26, 27], dummies := #[], finger := 0, led := !P.followText "set-order", moves := 1, plain := true }, slots := #[] }
noncomputable def x115v0 (P : Params) : Obj := { cls := (.type "range_iterator"), dict := none, data := .fields #[(.int 12284 0), (.int 0 0), (.int 1 0)], slots := #[] }
noncomputable def x116v0 (P : Params) : Obj := { cls := (.type "tuple"), dict := none, data := .seq #[] 0, slots := #[] }
noncomputable def x117v0 (P : Params) : Obj := { cls := (.type "StopIteration"), dict := none, data := .fields #[(.ref 116), .none, .none, .none, (.bool false), .none], slots := #[] }
noncomputable def x3v5 (P : Params) : Obj := { cls := (.type "dict"), dict := none, data := .dict #[⟨PyData.keyHash P (Str.ofString "__name__"), (.str (Str.ofString "__name__") 165), (.str (Str.ofString "cpy313.stringprep") 303)⟩, ⟨PyData.keyHash P (Str.ofString "__doc__"), (.str (Str.ofString "__doc__") 166), .none⟩, ⟨PyData.keyHash P (Str.ofString "__package__"), (.str (Str.ofString "__package__") 167), .none⟩, ⟨PyData.keyHash P (Str.ofString "__loader__"), (.str (Str.ofString "__loader__") 168), (.builtin "__main__.__loader__#opaque")⟩, ⟨PyData.keyHash P (Str.ofString "__spec__"), (.str (Str.ofString "__spec__") 169), .none⟩, ⟨PyData.keyHash P (Str.ofString "__annotations__"), (.str (Str.ofString "__annotations__") 170), (.ref 6)⟩, ⟨PyData.keyHash P (Str.ofString "__builtins__"), (.str (Str.ofString "__builtins__") 171), (.ref 4)⟩, ⟨PyData.keyHash P (Str.ofString "__file__"), (.str (Str.ofString "__file__") 173), (.str (Str.ofString "/claim/cut.py") 172)⟩, ⟨PyData.keyHash P (Str.ofString "__cached__"), (.str (Str.ofString "__cached__") 174), .none⟩, ⟨PyData.keyHash P (Str.ofString "_wall"), (.str (Str.ofString "_wall") 193), (.ref 21)⟩, ⟨PyData.keyHash P (Str.ofString "EMPTYSTRING"), (.str (Str.ofString "EMPTYSTRING") 197), (.str (Str.ofString "") 196)⟩, ⟨PyData.keyHash P (Str.ofString "_Accumulator"), (.str (Str.ofString "_Accumulator") 292), (.ref 101)⟩, ⟨PyData.keyHash P (Str.ofString "_strcoll"), (.str (Str.ofString "_strcoll") 302), (.ref 112)⟩, ⟨PyData.keyHash P (Str.ofString "c7_set"), (.str (Str.ofString "c7_set") 332), (.ref 114)⟩, ⟨PyData.keyHash P (Str.ofString "in_table_c7"), (.str (Str.ofString "in_table_c7") 339), (.ref 124)⟩] 15, slots := #[] }
noncomputable def x12v4 (P : Params) : Obj := { cls := .none, dict := none, data := .fields #[(.int 1 0), (.int 0 0), (.ref 20), (.int 6 0), (.int 0 0), (.ref 28), (.int 38 0), (.int 0 0), (.ref 111), (.int 42 0), (.int 0 0), (.ref 123)], slots := #[] }
noncomputable def x118v0 (P : Params) : Obj := { cls := (.type "tuple"), dict := none, data := .seq #[] 0, slots := #[] }
noncomputable def x119v0 (P : Params) : Obj := { cls := .none, dict := none, data := .fields #[], slots := #[] }
noncomputable def x120v0 (P : Params) : Obj := { cls := (.type "tuple"), dict := none, data := .seq #[(.str (Str.ofString "code") 336)] 0, slots := #[] }
noncomputable def x121v0 (P : Params) : Obj := { cls := (.type "tuple"), dict := none, data := .seq #[] 0, slots := #[] }
noncomputable def x122v0 (P : Params) : Obj := { cls := .none, dict := none, data := .func { name := (Str.ofString "in_table_c7"), qualname := (Str.ofString "in_table_c7"), params := fnP (stm 8), body := .stmts (fnB (stm 8)), scope := fnS (stm 8), globals := 0, closure := [], defaults := .none, kwdefaults := .none, doc := .none, pyModule := .none, annotations := none, code := .none, closureTuple := .none, builtins := 0 }, slots := #[] }
noncomputable def x123v0 (P : Params) : Obj := { cls := (.type "code"), dict := none, data := .fields #[(.str (Str.ofString "in_table_c7") 333), (.str (Str.ofString "in_table_c7") 334), (.str (Str.ofString "/claim/cut.py") 335), (.int 42 0), (.int 1 0), (.int 0 0), (.int 0 0), (.int 3 0), (.ref 118), (.bool true), (.int 181 0), (.ref 119), .none, (.ref 120), (.ref 121), (.ref 122), (.int 337 0), (.int 42 0), (.str (Str.ofString "/claim/cut.py") 338)], slots := #[] }
noncomputable def x124v0 (P : Params) : Obj := { cls := (.type "function"), dict := none, data := .func { name := (Str.ofString "in_table_c7"), qualname := (Str.ofString "in_table_c7"), params := fnP (stm 8), body := .stmts (fnB (stm 8)), scope := fnS (stm 8), globals := 3, closure := [], defaults := .none, kwdefaults := .none, doc := .none, pyModule := (.str (Str.ofString "cpy313.stringprep") 303), annotations := none, code := (.ref 123), closureTuple := .none, builtins := 0 }, slots := #[] }
noncomputable def x3v6 (P : Params) : Obj := { cls := (.type "dict"), dict := none, data := .dict #[⟨PyData.keyHash P (Str.ofString "__name__"), (.str (Str.ofString "__name__") 165), (.str (Str.ofString "cpy313.stringprep") 303)⟩, ⟨PyData.keyHash P (Str.ofString "__doc__"), (.str (Str.ofString "__doc__") 166), .none⟩, ⟨PyData.keyHash P (Str.ofString "__package__"), (.str (Str.ofString "__package__") 167), .none⟩, ⟨PyData.keyHash P (Str.ofString "__loader__"), (.str (Str.ofString "__loader__") 168), (.builtin "__main__.__loader__#opaque")⟩, ⟨PyData.keyHash P (Str.ofString "__spec__"), (.str (Str.ofString "__spec__") 169), .none⟩, ⟨PyData.keyHash P (Str.ofString "__annotations__"), (.str (Str.ofString "__annotations__") 170), (.ref 6)⟩, ⟨PyData.keyHash P (Str.ofString "__builtins__"), (.str (Str.ofString "__builtins__") 171), (.ref 4)⟩, ⟨PyData.keyHash P (Str.ofString "__file__"), (.str (Str.ofString "__file__") 173), (.str (Str.ofString "/claim/cut.py") 172)⟩, ⟨PyData.keyHash P (Str.ofString "__cached__"), (.str (Str.ofString "__cached__") 174), .none⟩, ⟨PyData.keyHash P (Str.ofString "_wall"), (.str (Str.ofString "_wall") 193), (.ref 21)⟩, ⟨PyData.keyHash P (Str.ofString "EMPTYSTRING"), (.str (Str.ofString "EMPTYSTRING") 197), (.str (Str.ofString "") 196)⟩, ⟨PyData.keyHash P (Str.ofString "_Accumulator"), (.str (Str.ofString "_Accumulator") 292), (.ref 101)⟩, ⟨PyData.keyHash P (Str.ofString "_strcoll"), (.str (Str.ofString "_strcoll") 302), (.ref 112)⟩, ⟨PyData.keyHash P (Str.ofString "c7_set"), (.str (Str.ofString "c7_set") 332), (.ref 114)⟩, ⟨PyData.keyHash P (Str.ofString "in_table_c7"), (.str (Str.ofString "in_table_c7") 339), (.ref 124)⟩, ⟨PyData.keyHash P (Str.ofString "c8_set"), (.str (Str.ofString "c8_set") 380), (.ref 138)⟩] 16, slots := #[] }
noncomputable def x125v0 (P : Params) : Obj := { cls := (.type "list"), dict := none, data := .seq #[(.int 832 340), (.int 833 341), (.int 8206 342), (.int 8207 343)] 0, slots := #[] }
noncomputable def x126v0 (P : Params) : Obj := { cls := (.type "range"), dict := none, data := .fields #[(.int 8234 344), (.int 8239 345), (.int 1 346)], slots := #[] }
noncomputable def x127v0 (P : Params) : Obj := { cls := (.type "list"), dict := none, data := .seq #[(.int 8234 349), (.int 8235 350), (.int 8236 351), (.int 8237 352), (.int 8238 353)] 7, slots := #[] }
noncomputable def x128v0 (P : Params) : Obj := { cls := (.type "range_iterator"), dict := none, data := .fields #[(.int 8239 0), (.int 0 0), (.int 1 0)], slots := #[] }
noncomputable def x129v0 (P : Params) : Obj := { cls := (.type "tuple"), dict := none, data := .seq #[] 0, slots := #[] }
noncomputable def x130v0 (P : Params) : Obj := { cls := (.type "StopIteration"), dict := none, data := .fields #[(.ref 129), .none, .none, .none, (.bool false), .none], slots := #[] }
noncomputable def x131v0 (P : Params) : Obj := { cls := (.type "list"), dict := none, data := .seq #[(.int 832 340), (.int 833 341), (.int 8206 342), (.int 8207 343), (.int 8234 349), (.int 8235 350), (.int 8236 351), (.int 8237 352), (.int 8238 353)] 0, slots := #[] }
noncomputable def x132v0 (P : Params) : Obj := { cls := (.type "range"), dict := none, data := .fields #[(.int 8298 354), (.int 8304 355), (.int 1 356)], slots := #[] }
noncomputable def x133v0 (P : Params) : Obj := { cls := (.type "list"), dict := none, data := .seq #[(.int 8298 359), (.int 8299 360), (.int 8300 361), (.int 8301 362), (.int 8302 363), (.int 8303 364)] 8, slots := #[] }
noncomputable def x134v0 (P : Params) : Obj := { cls := (.type "range_iterator"), dict := none, data := .fields #[(.int 8304 0), (.int 0 0), (.int 1 0)], slots := #[] }
noncomputable def x135v0 (P : Params) : Obj := { cls := (.type "tuple"), dict := none, data := .seq #[] 0, slots := #[] }
noncomputable def x136v0 (P : Params) : Obj := { cls := (.type "StopIteration"), dict := none, data := .fields #[(.ref 135), .none, .none, .none, (.bool false), .none], slots := #[] }
noncomputable def x137v0 (P : Params) : Obj := { cls := (.type "list"), dict := none, data := .seq #[(.int 832 340), (.int 833 341), (.int 8206 342), (.int 8207 343), (.int 8234 349), (.int 8235 350), (.int 8236 351), (.int 8237 352), (.int 8238 353), (.int 8298 359), (.int 8299 360), (.int 8300 361), (.int 8301 362), (.int 8302 363), (.int 8303 364)] 0, slots := #[] }
noncomputable def x138v0 (P : Params) : Obj := { cls := (.type "set"), dict := none, data := .set #[(832, (.int 832 340)), (833, (.int 833 341)), (8234, (.int 8234 349)), (8235, (.int 8235 350)), (8236, (.int 8236 351)), (8237, (.int 8237 352)), (8206, (.int 8206 342)), (8207, (.int 8207 343)), (8238, (.int 8238 353)), (8298, (.int 8298 359)), (8299, (.int 8299 360)), (8300, (.int 8300 361)), (8301, (.int 8301 362)), (8302, (.int 8302 363)), (8303, (.int 8303 364))] 16 { mask := 31, place := #[0, 1, 10, 11, 12, 13, 14, 15, 16, 17, 18, 19, 20, 21, 22], dummies := #[], finger := 0, led := !P.followText "set-order", moves := 1, plain := true }, slots := #[] }
noncomputable def x139v0 (P : Params) : Obj := { cls := (.type "list_iterator"), dict := none, data := .fields #[.none, (.int 15 0)], slots := #[] }
noncomputable def x140v0 (P : Params) : Obj := { cls := (.type "tuple"), dict := none, data := .seq #[] 0, slots := #[] }
noncomputable def x141v0 (P : Params) : Obj := { cls := (.type "StopIteration"), dict := none, data := .fields #[(.ref 140), .none, .none, .none, (.bool false), .none], slots := #[] }
noncomputable def x3v7 (P : Params) : Obj := { cls := (.type "dict"), dict := none, data := .dict #[⟨PyData.keyHash P (Str.ofString "__name__"), (.str (Str.ofString "__name__") 165), (.str (Str.ofString "cpy313.stringprep") 303)⟩, ⟨PyData.keyHash P (Str.ofString "__doc__"), (.str (Str.ofString "__doc__") 166), .none⟩, ⟨PyData.keyHash P (Str.ofString "__package__"), (.str (Str.ofString "__package__") 167), .none⟩, ⟨PyData.keyHash P (Str.ofString "__loader__"), (.str (Str.ofString "__loader__") 168), (.builtin "__main__.__loader__#opaque")⟩, ⟨PyData.keyHash P (Str.ofString "__spec__"), (.str (Str.ofString "__spec__") 169), .none⟩, ⟨PyData.keyHash P (Str.ofString "__annotations__"), (.str (Str.ofString "__annotations__") 170), (.ref 6)⟩, ⟨PyData.keyHash P (Str.ofString "__builtins__"), (.str (Str.ofString "__builtins__") 171), (.ref 4)⟩, ⟨PyData.keyHash P (Str.ofString "__file__"), (.str (Str.ofString "__file__") 173), (.str (Str.ofString "/claim/cut.py") 172)⟩, ⟨PyData.keyHash P (Str.ofString "__cached__"), (.str (Str.ofString "__cached__") 174), .none⟩, ⟨PyData.keyHash P (Str.ofString "_wall"), (.str (Str.ofString "_wall") 193), (.ref 21)⟩, ⟨PyData.keyHash P (Str.ofString "EMPTYSTRING"), (.str (Str.ofString "EMPTYSTRING") 197), (.str (Str.ofString "") 196)⟩, ⟨PyData.keyHash P (Str.ofString "_Accumulator"), (.str (Str.ofString "_Accumulator") 292), (.ref 101)⟩, ⟨PyData.keyHash P (Str.ofString "_strcoll"), (.str (Str.ofString "_strcoll") 302), (.ref 112)⟩, ⟨PyData.keyHash P (Str.ofString "c7_set"), (.str (Str.ofString "c7_set") 332), (.ref 114)⟩, ⟨PyData.keyHash P (Str.ofString "in_table_c7"), (.str (Str.ofString "in_table_c7") 339), (.ref 124)⟩, ⟨PyData.keyHash P (Str.ofString "c8_set"), (.str (Str.ofString "c8_set") 380), (.ref 138)⟩, ⟨PyData.keyHash P (Str.ofString "in_table_c8"), (.str (Str.ofString "in_table_c8") 387), (.ref 148)⟩] 17, slots := #[] }
noncomputable def x12v5 (P : Params) : Obj := { cls := .none, dict := none, data := .fields #[(.int 1 0), (.int 0 0), (.ref 20), (.int 6 0), (.int 0 0), (.ref 28), (.int 38 0), (.int 0 0), (.ref 111), (.int 42 0), (.int 0 0), (.ref 123), (.int 45 0), (.int 0 0), (.ref 147)], slots := #[] }
noncomputable def x142v0 (P : Params) : Obj := { cls := (.type "tuple"), dict := none, data := .seq #[] 0, slots := #[] }
noncomputable def x143v0 (P : Params) : Obj := { cls := .none, dict := none, data := .fields #[], slots := #[] }
noncomputable def x144v0 (P : Params) : Obj := { cls := (.type "tuple"), dict := none, data := .seq #[(.str (Str.ofString "code") 384)] 0, slots := #[] }
noncomputable def x145v0 (P : Params) : Obj := { cls := (.type "tuple"), dict := none, data := .seq #[] 0, slots := #[] }
noncomputable def x146v0 (P : Params) : Obj := { cls := .none, dict := none, data := .func { name := (Str.ofString "in_table_c8"), qualname := (Str.ofString "in_table_c8"), params := fnP (stm 10), body := .stmts (fnB (stm 10)), scope := fnS (stm 10), globals := 0, closure := [], defaults := .none, kwdefaults := .none, doc := .none, pyModule := .none, annotations := none, code := .none, closureTuple := .none, builtins := 0 }, slots := #[] }
noncomputable def x147v0 (P : Params) : Obj := { cls := (.type "code"), dict := none, data := .fields #[(.str (Str.ofString "in_table_c8") 381), (.str (Str.ofString "in_table_c8") 382), (.str (Str.ofString "/claim/cut.py") 383), (.int 45 0), (.int 1 0), (.int 0 0), (.int 0 0), (.int 3 0), (.ref 142), (.bool true), (.int 181 0), (.ref 143), .none, (.ref 144), (.ref 145), (.ref 146), (.int 385 0), (.int 45 0), (.str (Str.ofString "/claim/cut.py") 386)], slots := #[] }
noncomputable def x148v0 (P : Params) : Obj := { cls := (.type "function"), dict := none, data := .func { name := (Str.ofString "in_table_c8"), qualname := (Str.ofString "in_table_c8"), params := fnP (stm 10), body := .stmts (fnB (stm 10)), scope := fnS (stm 10), globals := 3, closure := [], defaults := .none, kwdefaults := .none, doc := .none, pyModule := (.str (Str.ofString "cpy313.stringprep") 303), annotations := none, code := (.ref 147), closureTuple := .none, builtins := 0 }, slots := #[] }
noncomputable def x149v0 (P : Params) : Obj := { cls := (.type "list"), dict := none, data := .seq #[(.int 917505 388)] 0, slots := #[] }
noncomputable def x150v0 (P : Params) : Obj := { cls := (.type "range"), dict := none, data := .fields #[(.int 917536 389), (.int 917632 390), (.int 1 391)], slots := #[] }
noncomputable def x151v0 (P : Params) : Obj := { cls := (.type "list"), dict := none, data := .seq #[] 2, slots := #[] }
noncomputable def x152v0 (P : Params) : Obj := { cls := (.type "range_iterator"), dict := none, data := .fields #[(.int 917536 0), (.int 96 0), (.int 1 0)], slots := #[] }
noncomputable def x151v1 (P : Params) : Obj := { cls := (.type "list"), dict := none, data := .seq #[(.int 917536 394), (.int 917537 395), (.int 917538 396), (.int 917539 397), (.int 917540 398), (.int 917541 399), (.int 917542 400), (.int 917543 401), (.int 917544 402), (.int 917545 403), (.int 917546 404), (.int 917547 405), (.int 917548 406), (.int 917549 407), (.int 917550 408), (.int 917551 409), (.int 917552 410), (.int 917553 411), (.int 917554 412), (.int 917555 413), (.int 917556 414), (.int 917557 415), (.int 917558 416), (.int 917559 417)] 26, slots := #[] }
noncomputable def x152v1 (P : Params) : Obj := { cls := (.type "range_iterator"), dict := none, data := .fields #[(.int 917560 0), (.int 72 0), (.int 1 0)], slots := #[] }
noncomputable def x151v2 (P : Params) : Obj := { cls := (.type "list"), dict := none, data := .seq #[(.int 917536 394), (.int 917537 395), (.int 917538 396), (.int 917539 397), (.int 917540 398), (.int 917541 399), (.int 917542 400), (.int 917543 401), (.int 917544 402), (.int 917545 403), (.int 917546 404), (.int 917547 405), (.int 917548 406), (.int 917549 407), (.int 917550 408), (.int 917551 409), (.int 917552 410), (.int 917553 411), (.int 917554 412), (.int 917555 413), (.int 917556 414), (.int 917557 415), (.int 917558 416), (.int 917559 417), (.int 917560 418), (.int 917561 419), (.int 917562 420), (.int 917563 421), (.int 917564 422), (.int 917565 423), (.int 917566 424), (.int 917567 425), (.int 917568 426), (.int 917569 427), (.int 917570 428), (.int 917571 429), (.int 917572 430), (.int 917573 431), (.int 917574 432), (.int 917575 433), (.int 917576 434), (.int 917577 435), (.int 917578 436), (.int 917579 437), (.int 917580 438), (.int 917581 439), (.int 917582 440), (.int 917583 441)] 50, slots := #[] }
noncomputable def x152v2 (P : Params) : Obj := { cls := (.type "range_iterator"), dict := none, data := .fields #[(.int 917584 0), (.int 48 0), (.int 1 0)], slots := #[] }
noncomputable def x151v3 (P : Params) : Obj := { cls := (.type "list"), dict := none, data := .seq #[(.int 917536 394), (.int 917537 395), (.int 917538 396), (.int 917539 397), (.int 917540 398), (.int 917541 399), (.int 917542 400), (.int 917543 401), (.int 917544 402), (.int 917545 403), (.int 917546 404), (.int 917547 405), (.int 917548 406), (.int 917549 407), (.int 917550 408), (.int 917551 409), (.int 917552 410), (.int 917553 411), (.int 917554 412), (.int 917555 413), (.int 917556 414), (.int 917557 415), (.int 917558 416), (.int 917559 417), (.int 917560 418), (.int 917561 419), (.int 917562 420), (.int 917563 421), (.int 917564 422), (.int 917565 423), (.int 917566 424), (.int 917567 425), (.int 917568 426), (.int 917569 427), (.int 917570 428), (.int 917571 429), (.int 917572 430), (.int 917573 431), (.int 917574 432), (.int 917575 433), (.int 917576 434), (.int 917577 435), (.int 917578 436), (.int 917579 437), (.int 917580 438), (.int 917581 439), (.int 917582 440), (.int 917583 441), (.int 917584 442), (.int 917585 443), (.int 917586 444), (.int 917587 445), (.int 917588 446), (.int 917589 447), (.int 917590 448), (.int 917591 449), (.int 917592 450), (.int 917593 451), (.int 917594 452), (.int 917595 453), (.int 917596 454), (.int 917597 455), (.int 917598 456), (.int 917599 457), (.int 917600 458), (.int 917601 459), (.int 917602 460), (.int 917603 461), (.int 917604 462), (.int 917605 463), (.int 917606 464), (.int 917607 465)] 74, slots := #[] }
noncomputable def x152v3 (P : Params) : Obj := { cls := (.type "range_iterator"), dict := none, data := .fields #[(.int 917608 0), (.int 24 0), (.int 1 0)], slots := #[] }
noncomputable def x151v4 (P : Params) : Obj := { cls := (.type "list"), dict := none, data := .seq #[(.int 917536 394), (.int 917537 395), (.int 917538 396), (.int 917539 397), (.int 917540 398), (.int 917541 399), (.int 917542 400), (.int 917543 401), (.int 917544 402), (.int 917545 403), (.int 917546 404), (.int 917547 405), (.int 917548 406), (.int 917549 407), (.int 917550 408), (.int 917551 409), (.int 917552 410), (.int 917553 411), (.int 917554 412), (.int 917555 413), (.int 917556 414), (.int 917557 415), (.int 917558 416), (.int 917559 417), (.int 917560 418), (.int 917561 419), (.int 917562 420), (.int 917563 421), (.int 917564 422), (.int 917565 423), (.int 917566 424), (.int 917567 425), (.int 917568 426), (.int 917569 427), (.int 917570 428), (.int 917571 429), (.int 917572 430), (.int 917573 431), (.int 917574 432), (.int 917575 433), (.int 917576 434), (.int 917577 435), (.int 917578 436), (.int 917579 437), (.int 917580 438), (.int 917581 439), (.int 917582 440), (.int 917583 441), (.int 917584 442), (.int 917585 443), (.int 917586 444), (.int 917587 445), (.int 917588 446), (.int 917589 447), (.int 917590 448), (.int 917591 449), (.int 917592 450), (.int 917593 451), (.int 917594 452), (.int 917595 453), (.int 917596 454), (.int 917597 455), (.int 917598 456), (.int 917599 457), (.int 917600 458), (.int 917601 459), (.int 917602 460), (.int 917603 461), (.int 917604 462), (.int 917605 463), (.int 917606 464), (.int 917607 465), (.int 917608 466), (.int 917609 467), (.int 917610 468), (.int 917611 469), (.int 917612 470), (.int 917613 471), (.int 917614 472), (.int 917615 473), (.int 917616 474), (.int 917617 475), (.int 917618 476), (.int 917619 477), (.int 917620 478), (.int 917621 479), (.int 917622 480), (.int 917623 481), (.int 917624 482), (.int 917625 483), (.int 917626 484), (.int 917627 485), (.int 917628 486), (.int 917629 487), (.int 917630 488), (.int 917631 489)] 98, slots := #[] }
noncomputable def x152v4 (P : Params) : Obj := { cls := (.type "range_iterator"), dict := none, data := .fields #[(.int 917632 0), (.int 0 0), (.int 1 0)], slots := #[] }
noncomputable def x153v0 (P : Params) : Obj := { cls := (.type "tuple"), dict := none, data := .seq #[] 0, slots := #[] }
noncomputable def x154v0 (P : Params) : Obj := { cls := (.type "StopIteration"), dict := none, data := .fields #[(.ref 153), .none, .none, .none, (.bool false), .none], slots := #[] }
noncomputable def x155v0 (P : Params) : Obj := { cls := (.type "list"), dict := none, data := .seq #[(.int 917505 388), (.int 917536 394), (.int 917537 395), (.int 917538 396), (.int 917539 397), (.int 917540 398), (.int 917541 399), (.int 917542 400), (.int 917543 401), (.int 917544 402), (.int 917545 403), (.int 917546 404), (.int 917547 405), (.int 917548 406), (.int 917549 407), (.int 917550 408), (.int 917551 409), (.int 917552 410), (.int 917553 411), (.int 917554 412), (.int 917555 413), (.int 917556 414), (.int 917557 415), (.int 917558 416), (.int 917559 417), (.int 917560 418), (.int 917561 419), (.int 917562 420), (.int 917563 421), (.int 917564 422), (.int 917565 423), (.int 917566 424), (.int 917567 425), (.int 917568 426), (.int 917569 427), (.int 917570 428), (.int 917571 429), (.int 917572 430), (.int 917573 431), (.int 917574 432), (.int 917575 433), (.int 917576 434), (.int 917577 435), (.int 917578 436), (.int 917579 437), (.int 917580 438), (.int 917581 439), (.int 917582 440), (.int 917583 441), (.int 917584 442), (.int 917585 443), (.int 917586 444), (.int 917587 445), (.int 917588 446), (.int 917589 447), (.int 917590 448), (.int 917591 449), (.int 917592 450), (.int 917593 451), (.int 917594 452), (.int 917595 453), (.int 917596 454), (.int 917597 455), (.int 917598 456), (.int 917599 457), (.int 917600 458), (.int 917601 459), (.int 917602 460), (.int 917603 461), (.int 917604 462), (.int 917605 463), (.int 917606 464), (.int 917607 465), (.int 917608 466), (.int 917609 467), (.int 917610 468), (.int 917611 469), (.int 917612 470), (.int 917613 471), (.int 917614 472), (.int 917615 473), (.int 917616 474), (.int 917617 475), (.int 917618 476), (.int 917619 477), (.int 917620 478), (.int 917621 479), (.int 917622 480), (.int 917623 481), (.int 917624 482), (.int 917625 483), (.int 917626 484), (.int 917627 485), (.int 917628 486), (.int 917629 487), (.int 917630 488), (.int 917631 489)] 0, slots := #[] }
noncomputable def x156v0 (P : Params) : Obj := { cls := (.type "set"), dict := none, data := .set #[] 0 { mask := 7, place := #[], dummies := #[], finger := 0, led := !P.followText "set-order", moves := 0, plain := true }, slots := #[] }
noncomputable def x157v0 (P : Params) : Obj := { cls := (.type "list_iterator"), dict := none, data := .fields #[(.ref 155), (.int 0 0)], slots := #[] }
noncomputable def x156v1 (P : Params) : Obj := { cls := (.type "set"), dict := none, data := .set #[(917505, (.int 917505 388))] 1 { mask := 7, place := #[1], dummies := #[], finger := 0, led := !P.followText "set-order", moves := 0, plain := true }, slots := #[] }
noncomputable def x157v1 (P : Params) : Obj := { cls := (.type "list_iterator"), dict := none, data := .fields #[(.ref 155), (.int 1 0)], slots := #[] }
noncomputable def x156v2 (P : Params) : Obj := { cls := (.type "set"), dict := none, data := .set #[(917536, (.int 917536 394)), (917505, (.int 917505 388))] 2 { mask := 7, place := #[0, 1], dummies := #[], finger := 0, led := !P.followText "set-order", moves := 0, plain := true }, slots := #[] }
noncomputable def x157v2 (P : Params) : Obj := { cls := (.type "list_iterator"), dict := none, data := .fields #[(.ref 155), (.int 2 0)], slots := #[] }
noncomputable def x156v3 (P : Params) : Obj := { cls := (.type "set"), dict := none, data := .set #[(917536, (.int 917536 394)), (917505, (.int 917505 388)), (917537, (.int 917537 395))] 3 { mask := 7, place := #[0, 1, 7], dummies := #[], finger := 0, led := !P.followText "set-order", moves := 0, plain := true }, slots := #[] }
noncomputable def x157v3 (P : Params) : Obj := { cls := (.type "list_iterator"), dict := none, data := .fields #[(.ref 155), (.int 3 0)], slots := #[] }
noncomputable def x156v4 (P : Params) : Obj := { cls := (.type "set"), dict := none, data := .set #[(917536, (.int 917536 394)), (917505, (.int 917505 388)), (917538, (.int 917538 396)), (917537, (.int 917537 395))] 4 { mask := 7, place := #[0, 1, 2, 7], dummies := #[], finger := 0, led := !P.followText "set-order", moves := 0, plain := true }, slots := #[] }
noncomputable def x157v4 (P : Params) : Obj := { cls := (.type "list_iterator"), dict := none, data := .fields #[(.ref 155), (.int 4 0)], slots := #[] }
noncomputable def x156v5 (P : Params) : Obj := { cls := (.type "set"), dict := none, data := .set #[(917536, (.int 917536 394)), (917505, (.int 917505 388)), (917538, (.int 917538 396)), (917539, (.int 917539 397)), (917537, (.int 917537 395))] 6 { mask := 31, place := #[0, 1, 2, 3, 4], dummies := #[], finger := 0, led := !P.followText "set-order", moves := 1, plain := true }, slots := #[] }
noncomputable def x157v5 (P : Params) : Obj := { cls := (.type "list_iterator"), dict := none, data := .fields #[(.ref 155), (.int 5 0)], slots := #[] }
noncomputable def x156v6 (P : Params) : Obj := { cls := (.type "set"), dict := none, data := .set #[(917536, (.int 917536 394)), (917505, (.int 917505 388)), (917538, (.int 917538 396)), (917539, (.int 917539 397)), (917537, (.int 917537 395)), (917540, (.int 917540 398))] 7 { mask := 31, place := #[0, 1, 2, 3, 4, 5], dummies := #[], finger := 0, led := !P.followText "set-order", moves := 1, plain := true }, slots := #[] }
noncomputable def x157v6 (P : Params) : Obj := { cls := (.type "list_iterator"), dict := none, data := .fields #[(.ref 155), (.int 6 0)], slots := #[] }
noncomputable def x156v7 (P : Params) : Obj := { cls := (.type "set"), dict := none, data := .set #[(917536, (.int 917536 394)), (917505, (.int 917505 388)), (917538, (.int 917538 396)), (917539, (.int 917539 397)), (917537, (.int 917537 395)), (917540, (.int 917540 398)), (917541, (.int 917541 399))] 8 { mask := 31, place := #[0, 1, 2, 3, 4, 5, 6], dummies := #[], finger := 0, led := !P.followText "set-order", moves := 1, plain := true }, slots := #[] }
noncomputable def x157v7 (P : Params) : Obj := { cls := (.type "list_iterator"), dict := none, data := .fields #[(.ref 155), (.int 7 0)], slots := #[] }
noncomputable def x156v8 (P : Params) : Obj := { cls := (.type "set"), dict := none, data := .set #[(917536, (.int 917536 394)), (917505, (.int 917505 388)), (917538, (.int 917538 396)), (917539, (.int 917539 397)), (917537, (.int 917537 395)), (917540, (.int 917540 398)), (917541, (.int 917541 399)), (917542, (.int 917542 400))] 9 { mask := 31, place := #[0, 1, 2, 3, 4, 5, 6, 7], dummies := #[], finger := 0, led := !P.followText "set-order", moves := 1, plain := true }, slots := #[] }
noncomputable def x157v8 (P : Params) : Obj := { cls := (.type "list_iterator"), dict := none, data := .fields #[(.ref 155), (.int 8 0)], slots := #[] }
noncomputable def x156v9 (P : Params) : Obj := { cls := (.type "set"), dict := none, data := .set #[(917536, (.int 917536 394)), (917505, (.int 917505 388)), (917538, (.int 917538 396)), (917539, (.int 917539 397)), (917537, (.int 917537 395)), (917540, (.int 917540 398)), (917541, (.int 917541 399)), (917542, (.int 917542 400)), (917543, (.int 917543 401))] 10 { mask := 31, place := #[0, 1, 2, 3, 4, 5, 6, 7, 8], dummies := #[], finger := 0, led := !P.followText "set-order", moves := 1, plain := true }, slots := #[] }
noncomputable def x157v9 (P : Params) : Obj := { cls := (.type "list_iterator"), dict := none, data := .fields #[(.ref 155), (.int 9 0)], slots := #[] }
noncomputable def x156v10 (P : Params) : Obj := { cls := (.type "set"), dict := none, data := .set #[(917536, (.int 917536 394)), (917505, (.int 917505 388)), (917538, (.int 917538 396)), (917539, (.int 917539 397)), (917537, (.int 917537 395)), (917540, (.int 917540 398)), (917541, (.int 917541 399)), (917542, (.int 917542 400)), (917543, (.int 917543 401)), (917544, (.int 917544 402))] 11 { mask := 31, place := #[0, 1, 2, 3, 4, 5, 6, 7, 8, 9], dummies := #[], finger := 0, led := !P.followText "set-order", moves := 1, plain := true }, slots := #[] }
noncomputable def x157v10 (P : Params) : Obj := { cls := (.type "list_iterator"), dict := none, data := .fields #[(.ref 155), (.int 10 0)], slots := #[] }
noncomputable def x156v11 (P : Params) : Obj := { cls := (.type "set"), dict := none, data := .set #[(917536, (.int 917536 394)), (917505, (.int 917505 388)), (917538, (.int 917538 396)), (917539, (.int 917539 397)), (917537, (.int 917537 395)), (917540, (.int 917540 398)), (917541, (.int 917541 399)), (917542, (.int 917542 400)), (917543, (.int 917543 401)), (917544, (.int 917544 402)), (917545, (.int 917545 403))] 12 { mask := 31, place := #[0, 1, 2, 3, 4, 5, 6, 7, 8, 9, 10], dummies := #[], finger := 0, led := !P.followText "set-order", moves := 1, plain := true }, slots := #[] }
noncomputable def x157v11 (P : Params) : Obj := { cls := (.type "list_iterator"), dict := none, data := .fields #[(.ref 155), (.int 11 0)], slots := #[] }
noncomputable def x156v12 (P : Params) : Obj := { cls := (.type "set"), dict := none, data := .set #[(917536, (.int 917536 394)), (917505, (.int 917505 388)), (917538, (.int 917538 396)), (917539, (.int 917539 397)), (917537, (.int 917537 395)), (917540, (.int 917540 398)), (917541, (.int 917541 399)), (917542, (.int 917542 400)), (917543, (.int 917543 401)), (917544, (.int 917544 402)), (917545, (.int 917545 403)), (917546, (.int 917546 404))] 13 { mask := 31, place := #[0, 1, 2, 3, 4, 5, 6, 7, 8, 9, 10, 11], dummies := #[], finger := 0, led := !P.followText "set-order", moves := 1, plain := true }, slots := #[] }
noncomputable def x157v12 (P : Params) : Obj := { cls := (.type "list_iterator"), dict := none, data := .fields #[(.ref 155), (.int 12 0)], slots := #[] }
noncomputable def x156v13 (P : Params) : Obj := { cls := (.type "set"), dict := none, data := .set #[(917536, (.int 917536 394)), (917505, (.int 917505 388)), (917538, (.int 917538 396)), (917539, (.int 917539 397)), (917537, (.int 917537 395)), (917540, (.int 917540 398)), (917541, (.int 917541 399)), (917542, (.int 917542 400)), (917543, (.int 917543 401)), (917544, (.int 917544 402)), (917545, (.int 917545 403)), (917546, (.int 917546 404)), (917547, (.int 917547 405))] 14 { mask := 31, place := #[0, 1, 2, 3, 4, 5, 6, 7, 8, 9, 10, 11, 12], dummies := #[], finger := 0, led := !P.followText "set-order", moves := 1, plain := true }, slots := #[] }
noncomputable def x157v13 (P : Params) : Obj := { cls := (.type "list_iterator"), dict := none, data := .fields #[(.ref 155), (.int 13 0)], slots := #[] }
noncomputable def x156v14 (P : Params) : Obj := { cls := (.type "set"), dict := none, data := .set #[(917536, (.int 917536 394)), (917505, (.int 917505 388)), (917538, (.int 917538 396)), (917539, (.int 917539 397)), (917537, (.int 917537 395)), (917540, (.int 917540 398)), (917541, (.int 917541 399)), (917542, (.int 917542 400)), (917543, (.int 917543 401)), (917544, (.int 917544 402)), (917545, (.int 917545 403)), (917546, (.int 917546 404)), (917547, (.int 917547 405)), (917548, (.int 917548 406))] 15 { mask := 31, place := #[0, 1, 2, 3, 4, 5, 6, 7, 8, 9, 10, 11, 12, 13], dummies := #[], finger := 0, led := !P.followText "set-order", moves := 1, plain := true }, slots := #[] }
noncomputable def x157v14 (P : Params) : Obj := { cls := (.type "list_iterator"), dict := none, data := .fields #[(.ref 155), (.int 14 0)], slots := #[] }
noncomputable def x156v15 (P : Params) : Obj := { cls := (.type "set"), dict := none, data := .set #[(917536, (.int 917536 394)), (917505, (.int 917505 388)), (917538, (.int 917538 396)), (917539, (.int 917539 397)), (917537, (.int 917537 395)), (917540, (.int 917540 398)), (917541, (.int 917541 399)), (917542, (.int 917542 400)), (917543, (.int 917543 401)), (917544, (.int 917544 402)), (917545, (.int 917545 403)), (917546, (.int 917546 404)), (917547, (.int 917547 405)), (917548, (.int 917548 406)), (917549, (.int 917549 407))] 16 { mask := 31, place := #[0, 1, 2, 3, 4, 5, 6, 7, 8, 9, 10, 11, 12, 13, 14], dummies := #[], finger := 0, led := !P.followText "set-order", moves := 1, plain := true }, slots := #[] }
noncomputable def x157v15 (P : Params) : Obj := { cls := (.type "list_iterator"), dict := none, data := .fields #[(.ref 155), (.int 15 0)], slots := #[] }
noncomputable def x156v16 (P : Params) : Obj := { cls := (.type "set"), dict := none, data := .set #[(917536, (.int 917536 394)), (917505, (.int 917505 388)), (917538, (.int 917538 396)), (917539, (.int 917539 397)), (917537, (.int 917537 395)), (917540, (.int 917540 398)), (917541, (.int 917541 399)), (917542, (.int 917542 400)), (917543, (.int 917543 401)), (917544, (.int 917544 402)), (917545, (.int 917545 403)), (917546, (.int 917546 404)), (917547, (.int 917547 405)), (917548, (.int 917548 406)), (917549, (.int 917549 407)), (917550, (.int 917550 408))] 17 { mask := 31, place := #[0, 1, 2, 3, 4, 5, 6, 7, 8, 9, 10, 11, 12, 13, 14, 15], dummies := #[], finger := 0, led := !P.followText "set-order", moves := 1, plain := true }, slots := #[] }
noncomputable def x157v16 (P : Params) : Obj := { cls := (.type "list_iterator"), dict := none, data := .fields #[(.ref 155), (.int 16 0)], slots := #[] }
noncomputable def x156v17 (P : Params) : Obj := { cls := (.type "set"), dict := none, data := .set #[(917536, (.int 917536 394)), (917505, (.int 917505 388)), (917538, (.int 917538 396)), (917539, (.int 917539 397)), (917537, (.int 917537 395)), (917540, (.int 917540 398)), (917541, (.int 917541 399)), (917542, (.int 917542 400)), (917543, (.int 917543 401)), (917544, (.int 917544 402)), (917545, (.int 917545 403)), (917546, (.int 917546 404)), (917547, (.int 917547 405)), (917548, (.int 917548 406)), (917549, (.int 917549 407)), (917550, (.int 917550 408)), (917551, (.int 917551 409))] 18 { mask := 31, place := #[0, 1, 2, 3, 4, 5, 6, 7, 8, 9, 10, 11, 12, 13, 14, 15, 16], dummies := #[], finger := 0, led := !P.followText "set-order", moves := 1, plain := true }, slots := #[] }
noncomputable def x157v17 (P : Params) : Obj := { cls := (.type "list_iterator"), dict := none, data := .fields #[(.ref 155), (.int 17 0)], slots := #[] }
noncomputable def x156v18 (P : Params) : Obj := { cls := (.type "set"), dict := none, data := .set #[(917536, (.int 917536 394)), (917505, (.int 917505 388)), (917538, (.int 917538 396)), (917539, (.int 917539 397)), (917537, (.int 917537 395)), (917540, (.int 917540 398)), (917541, (.int 917541 399)), (917542, (.int 917542 400)), (917543, (.int 917543 401)), (917544, (.int 917544 402)), (917545, (.int 917545 403)), (917546, (.int 917546 404)), (917547, (.int 917547 405)), (917548, (.int 917548 406)), (917549, (.int 917549 407)), (917550, (.int 917550 408)), (917551, (.int 917551 409)), (917552, (.int 917552 410))] 19 { mask := 31, place := #[0, 1, 2, 3, 4, 5, 6, 7, 8, 9, 10, 11, 12, 13, 14, 15, 16, 17], dummies := #[], finger := 0, led := !P.followText "set-order", moves := 1, plain := true }, slots := #[] }
noncomputable def x157v18 (P : Params) : Obj := { cls := (.type "list_iterator"), dict := none, data := .fields #[(.ref 155), (.int 18 0)], slots := #[] }
noncomputable def x156v19 (P : Params) : Obj := { cls := (.type "set"), dict := none, data := .set #[(917505, (.int 917505 388)), (917536, (.int 917536 394)), (917537, (.int 917537 395)), (917538, (.int 917538 396)), (917539, (.int 917539 397)), (917540, (.int 917540 398)), (917541, (.int 917541 399)), (917542, (.int 917542 400)), (917543, (.int 917543 401)), (917544, (.int 917544 402)), (917545, (.int 917545 403)), (917546, (.int 917546 404)), (917547, (.int 917547 405)), (917548, (.int 917548 406)), (917549, (.int 917549 407)), (917550, (.int 917550 408)), (917551, (.int 917551 409)), (917552, (.int 917552 410)), (917553, (.int 917553 411))] 21 { mask := 127, place := #[1, 32, 33, 34, 35, 36, 37, 38, 39, 40, 41, 42, 43, 44, 45, 46, 47, 48, 49], dummies := #[], finger := 0, led := !P.followText "set-order", moves := 2, plain := true }, slots := #[] }
noncomputable def x157v19 (P : Params) : Obj := { cls := (.type "list_iterator"), dict := none, data := .fields #[(.ref 155), (.int 19 0)], slots := #[] }
noncomputable def x156v20 (P : Params) : Obj := { cls := (.type "set"), dict := none, data := .set #[(917505, (.int 917505 388)), (917536, (.int 917536 394)), (917537, (.int 917537 395)), (917538, (.int 917538 396)), (917539, (.int 917539 397)), (917540, (.int 917540 398)), (917541, (.int 917541 399)), (917542, (.int 917542 400)), (917543, (.int 917543 401)), (917544, (.int 917544 402)), (917545, (.int 917545 403)), (917546, (.int 917546 404)), (917547, (.int 917547 405)), (917548, (.int 917548 406)), (917549, (.int 917549 407)), (917550, (.int 917550 408)), (917551, (.int 917551 409)), (917552, (.int 917552 410)), (917553, (.int 917553 411)), (917554, (.int 917554 412))] 22 { mask := 127, place := #[1, 32, 33, 34, 35, 36, 37, 38, 39, 40, 41, 42, 43, 44, 45, 46, 47, 48, 49, 50], dummies := #[], finger := 0, led := !P.followText "set-order", moves := 2, plain := true }, slots := #[] }
noncomputable def x157v20 (P : Params) : Obj := { cls := (.type "list_iterator"), dict := none, data := .fields #[(.ref 155), (.int 20 0)], slots := #[] }
noncomputable def x156v21 (P : Params) : Obj := { cls := (.type "set"), dict := none, data := .set #[(917505, (.int 917505 388)), (917536, (.int 917536 394)), (917537, (.int 917537 395)), (917538, (.int 917538 396)), (917539, (.int 917539 397)), (917540, (.int 917540 398)), (917541, (.int 917541 399)), (917542, (.int 917542 400)), (917543, (.int 917543 401)), (917544, (.int 917544 402)), (917545, (.int 917545 403)), (917546, (.int 917546 404)), (917547, (.int 917547 405)), (917548, (.int 917548 406)), (917549, (.int 917549 407)), (917550, (.int 917550 408)), (917551, (.int 917551 409)), (917552, (.int 917552 410)), (917553, (.int 917553 411)), (917554, (.int 917554 412)), (917555, (.int 917555 413))] 23 { mask := 127, place := #[1, 32, 33, 34, 35, 36, 37, 38, 39, 40, 41, 42, 43, 44, 45, 46, 47, 48, 49, 50, 51], dummies := #[], finger := 0, led := !P.followText "set-order", moves := 2, plain := true }, slots := #[] }
noncomputable def x157v21 (P : Params) : Obj := { cls := (.type "list_iterator"), dict := none, data := .fields #[(.ref 155), (.int 21 0)], slots := #[] }
noncomputable def x156v22 (P : Params) : Obj := { cls := (.type "set"), dict := none, data := .set #[(917505, (.int 917505 388)), (917536, (.int 917536 394)), (917537, (.int 917537 395)), (917538, (.int 917538 396)), (917539, (.int 917539 397)), (917540, (.int 917540 398)), (917541, (.int 917541 399)), (917542, (.int 917542 400)), (917543, (.int 917543 401)), (917544, (.int 917544 402)), (917545, (.int 917545 403)), (917546, (.int 917546 404)), (917547, (.int 917547 405)), (917548, (.int 917548 406)), (917549, (.int 917549 407)), (917550, (.int 917550 408)), (917551, (.int 917551 409)), (917552, (.int 917552 410)), (917553, (.int 917553 411)), (917554, (.int 917554 412)), (917555, (.int 917555 413)), (917556, (.int 917556 414))] 24 { mask := 127, place := #[1, 32, 33, 34, 35, 36, 37, 38, 39, 40, 41, 42, 43, 44, 45, 46, 47, 48, 49, 50, 51, 52], dummies := #[], finger := 0, led := !P.followText "set-order", moves := 2, plain := true }, slots := #[] }
noncomputable def x157v22 (P : Params) : Obj := { cls := (.type "list_iterator"), dict := none, data := .fields #[(.ref 155), (.int 22 0)], slots := #[] }
noncomputable def x156v23 (P : Params) : Obj := { cls := (.type "set"), dict := none, data := .set #[(917505, (.int 917505 388)), (917536, (.int 917536 394)), (917537, (.int 917537 395)), (917538, (.int 917538 396)), (917539, (.int 917539 397)), (917540, (.int 917540 398)), (917541, (.int 917541 399)), (917542, (.int 917542 400)), (917543, (.int 917543 401)), (917544, (.int 917544 402)), (917545, (.int 917545 403)), (917546, (.int 917546 404)), (917547, (.int 917547 405)), (917548, (.int 917548 406)), (917549, (.int 917549 407)), (917550, (.int 917550 408)), (917551, (.int 917551 409)), (917552, (.int 917552 410)), (917553, (.int 917553 411)), (917554, (.int 917554 412)), (917555, (.int 917555 413)), (917556, (.int 917556 414)), (917557, (.int 917557 415))] 25 { mask := 127, place := #[1, 32, 33, 34, 35, 36, 37, 38, 39, 40, 41, 42, 43, 44, 45, 46, 47, 48, 49, 50, 51, 52, 53], dummies := #[], finger := 0, led := !P.followText "set-order", moves := 2, plain := true }, slots := #[] }
noncomputable def x157v23 (P : Params) : Obj := { cls := (.type "list_iterator"), dict := none, data := .fields #[(.ref 155), (.int 23 0)], slots := #[] }
noncomputable def x156v24 (P : Params) : Obj := { cls := (.type "set"), dict := none, data := .set #[(917505, (.int 917505 388)), (917536, (.int 917536 394)), (917537, (.int 917537 395)), (917538, (.int 917538 396)), (917539, (.int 917539 397)), (917540, (.int 917540 398)), (917541, (.int 917541 399)), (917542, (.int 917542 400)), (917543, (.int 917543 401)), (917544, (.int 917544 402)), (917545, (.int 917545 403)), (917546, (.int 917546 404)), (917547, (.int 917547 405)), (917548, (.int 917548 406)), (917549, (.int 917549 407)), (917550, (.int 917550 408)), (917551, (.int 917551 409)), (917552, (.int 917552 410)), (917553, (.int 917553 411)), (917554, (.int 917554 412)), (917555, (.int 917555 413)), (917556, (.int 917556 414)), (917557, (.int 917557 415)), (917558, (.int 917558 416))] 26 { mask := 127, place := #[1, 32, 33, 34, 35, 36, 37, 38, 39, 40, 41, 42, 43, 44, 45, 46, 47, 48, 49, 50, 51, 52, 53, 54], dummies := #[], finger := 0, led := !P.followText "set-order", moves := 2, plain := true }, slots := #[] }
noncomputable def x157v24 (P : Params) : Obj := { cls := (.type "list_iterator"), dict := none, data := .fields #[(.ref 155), (.int 24 0)], slots := #[] }
noncomputable def x156v25 (P : Params) : Obj := { cls := (.type "set"), dict := none, data := .set #[(917505, (.int 917505 388)), (917536, (.int 917536 394)), (917537, (.int 917537 395)), (917538, (.int 917538 396)), (917539, (.int 917539 397)), (917540, (.int 917540 398)), (917541, (.int 917541 399)), (917542, (.int 917542 400)), (917543, (.int 917543 401)), (917544, (.int 917544 402)), (917545, (.int 917545 403)), (917546, (.int 917546 404)), (917547, (.int 917547 405)), (917548, (.int 917548 406)), (917549, (.int 917549 407)), (917550, (.int 917550 408)), (917551, (.int 917551 409)), (917552, (.int 917552 410)), (917553, (.int 917553 411)), (917554, (.int 917554 412)), (917555, (.int 917555 413)), (917556, (.int 917556 414)), (917557, (.int 917557 415)), (917558, (.int 917558 416)), (917559, (.int 917559 417))] 27 { mask := 127, place := #[1, 32, 33, 34, 35, 36, 37, 38, 39, 40, 41, 42, 43, 44, 45, 46, 47, 48, 49, 50, 51, 52, 53, 54, 55], dummies := #[], finger := 0, led := !P.followText "set-order", moves := 2, plain := true }, slots := #[] }
noncomputable def x157v25 (P : Params) : Obj := { cls := (.type "list_iterator"), dict := none, data := .fields #[(.ref 155), (.int 25 0)], slots := #[] }
noncomputable def x156v26 (P : Params) : Obj := { cls := (.type "set"), dict := none, data := .set #[(917505, (.int 917505 388)), (917536, (.int 917536 394)), (917537, (.int 917537 395)), (917538, (.int 917538 396)), (917539, (.int 917539 397)), (917540, (.int 917540 398)), (917541, (.int 917541 399)), (917542, (.int 917542 400)), (917543, (.int 917543 401)), (917544, (.int 917544 402)), (917545, (.int 917545 403)), (917546, (.int 917546 404)), (917547, (.int 917547 405)), (917548, (.int 917548 406)), (917549, (.int 917549 407)), (917550, (.int 917550 408)), (917551, (.int 917551 409)), (917552, (.int 917552 410)), (917553, (.int 917553 411)), (917554, (.int 917554 412)), (917555, (.int 917555 413)), (917556, (.int 917556 414)), (917557, (.int 917557 415)), (917558, (.int 917558 416)), (917559, (.int 917559 417)), (917560, (.int 917560 418))] 28 { mask := 127, place := #[1, 32, 33, 34, 35, 36, 37, 38, 39, 40, 41, 42, 43, 44, 45, 46, 47, 48, 49, 50, 51, 52, 53, 54, 55, 56], dummies := #[], finger := 0, led := !P.followText "set-order", moves := 2, plain := true }, slots := #[] }
noncomputable def x157v26 (P : Params) : Obj := { cls := (.type "list_iterator"), dict := none, data := .fields #[(.ref 155), (.int 26 0)], slots := #[] }
noncomputable def x156v27 (P : Params) : Obj := { cls := (.type "set"), dict := none, data := .set #[(917505, (.int 917505 388)), (917536, (.int 917536 394)), (917537, (.int 917537 395)), (917538, (.int 917538 396)), (917539, (.int 917539 397)), (917540, (.int 917540 398)), (917541, (.int 917541 399)), (917542, (.int 917542 400)), (917543, (.int 917543 401)), (917544, (.int 917544 402)), (917545, (.int 917545 403)), (917546, (.int 917546 404)), (917547, (.int 917547 405)), (917548, (.int 917548 406)), (917549, (.int 917549 407)), (917550, (.int 917550 408)), (917551, (.int 917551 409)), (917552, (.int 917552 410)), (917553, (.int 917553 411)), (917554, (.int 917554 412)), (917555, (.int 917555 413)), (917556, (.int 917556 414)), (917557, (.int 917557 415)), (917558, (.int 917558 416)), (917559, (.int 917559 417)), (917560, (.int 917560 418)), (917561, (.int 917561 419))] 29 { mask := 127, place := #[1, 32, 33, 34, 35, 36, 37, 38, 39, 40, 41, 42, 43, 44, 45, 46, 47, 48, 49, 50, 51, 52, 53, 54, 55, 56, 57], dummies := #[], finger := 0, led := !P.followText "set-order", moves := 2, plain := true }, slots := #[] }
noncomputable def x157v27 (P : Params) : Obj := { cls := (.type "list_iterator"), dict := none, data := .fields #[(.ref 155), (.int 27 0)], slots := #[] }
noncomputable def x156v28 (P : Params) : Obj := { cls := (.type "set"), dict := none, data := .set #[(917505, (.int 917505 388)), (917536, (.int 917536 394)), (917537, (.int 917537 395)), (917538, (.int 917538 396)), (917539, (.int 917539 397)), (917540, (.int 917540 398)), (917541, (.int 917541 399)), (917542, (.int 917542 400)), (917543, (.int 917543 401)), (917544, (.int 917544 402)), (917545, (.int 917545 403)), (917546, (.int 917546 404)), (917547, (.int 917547 405)), (917548, (.int 917548 406)), (917549, (.int 917549 407)), (917550, (.int 917550 408)), (917551, (.int 917551 409)), (917552, (.int 917552 410)), (917553, (.int 917553 411)), (917554, (.int 917554 412)), (917555, (.int 917555 413)), (917556, (.int 917556 414)), (917557, (.int 917557 415)), (917558, (.int 917558 416)), (917559, (.int 917559 417)), (917560, (.int 917560 418)), (917561, (.int 917561 419)), (917562, (.int 917562 420))] 30 { mask := 127, place := #[1, 32, 33, 34, 35, 36, 37, 38, 39, 40, 41, 42, 43, 44, 45, 46, 47, 48, 49, 50, 51, 52, 53, 54, 55, 56, 57, 58], dummies := #[], finger := 0, led := !P.followText "set-order", moves := 2, plain := true }, slots := #[] }
noncomputable def x157v28 (P : Params) : Obj := { cls := (.type "list_iterator"), dict := none, data := .fields #[(.ref 155), (.int 28 0)], slots := #[] }
noncomputable def x156v29 (P : Params) : Obj := { cls := (.type "set"), dict := none, data := .set #[(917505, (.int 917505 388)), (917536, (.int 917536 394)), (917537, (.int 917537 395)), (917538, (.int 917538 396)), (917539, (.int 917539 397)), (917540, (.int 917540 398)), (917541, (.int 917541 399)), (917542, (.int 917542 400)), (917543, (.int 917543 401)), (917544, (.int 917544 402)), (917545, (.int 917545 403)), (917546, (.int 917546 404)), (917547, (.int 917547 405)), (917548, (.int 917548 406)), (917549, (.int 917549 407)), (917550, (.int 917550 408)), (917551, (.int 917551 409)), (917552, (.int 917552 410)), (917553, (.int 917553 411)), (917554, (.int 917554 412)), (917555, (.int 917555 413)), (917556, (.int 917556 414)), (917557, (.int 917557 415)), (917558, (.int 917558 416)), (917559, (.int 917559 417)), (917560, (.int 917560 418)), (917561, (.int 917561 419)), (917562, (.int 917562 420)), (917563, (.int 917563 421))] 31 { mask := 127, place := #[1, 32, 33, 34, 35, 36, 37, 38, 39, 40, 41, 42, 43, 44, 45, 46, 47, 48, 49, 50, 51, 52, 53, 54, 55, 56, 57, 58, 59], dummies := #[], finger := 0, led := !P.followText "set-order", moves := 2, plain := true }, slots := #[] }
noncomputable def x157v29 (P : Params) : Obj := { cls := (.type "list_iterator"), dict := none, data := .fields #[(.ref 155), (.int 29 0)], slots := #[] }
noncomputable def x156v30 (P : Params) : Obj := { cls := (.type "set"), dict := none, data := .set #[(917505, (.int 917505 388)), (917536, (.int 917536 394)), (917537, (.int 917537 395)), (917538, (.int 917538 396)), (917539, (.int 917539 397)), (917540, (.int 917540 398)), (917541, (.int 917541 399)), (917542, (.int 917542 400)), (917543, (.int 917543 401)), (917544, (.int 917544 402)), (917545, (.int 917545 403)), (917546, (.int 917546 404)), (917547, (.int 917547 405)), (917548, (.int 917548 406)), (917549, (.int 917549 407)), (917550, (.int 917550 408)), (917551, (.int 917551 409)), (917552, (.int 917552 410)), (917553, (.int 917553 411)), (917554, (.int 917554 412)), (917555, (.int 917555 413)), (917556, (.int 917556 414)), (917557, (.int 917557 415)), (917558, (.int 917558 416)), (917559, (.int 917559 417)), (917560, (.int 917560 418)), (917561, (.int 917561 419)), (917562, (.int 917562 420)), (917563, (.int 917563 421)), (917564, (.int 917564 422))] 32 { mask := 127, place := #[1, 32, 33, 34, 35, 36, 37, 38, 39, 40, 41, 42, 43, 44, 45, 46, 47, 48, 49, 50, 51, 52, 53, 54, 55, 56, 57, 58, 59, 60], dummies := #[], finger := 0, led := !P.followText "set-order", moves := 2, plain := true }, slots := #[] }
noncomputable def x157v30 (P : Params) : Obj := { cls := (.type "list_iterator"), dict := none, data := .fields #[(.ref 155), (.int 30 0)], slots := #[] }
noncomputable def x156v31 (P : Params) : Obj := { cls := (.type "set"), dict := none, data := .set #[(917505, (.int 917505 388)), (917536, (.int 917536 394)), (917537, (.int 917537 395)), (917538, (.int 917538 396)), (917539, (.int 917539 397)), (917540, (.int 917540 398)), (917541, (.int 917541 399)), (917542, (.int 917542 400)), (917543, (.int 917543 401)), (917544, (.int 917544 402)), (917545, (.int 917545 403)), (917546, (.int 917546 404)), (917547, (.int 917547 405)), (917548, (.int 917548 406)), (917549, (.int 917549 407)), (917550, (.int 917550 408)), (917551, (.int 917551 409)), (917552, (.int 917552 410)), (917553, (.int 917553 411)), (917554, (.int 917554 412)), (917555, (.int 917555 413)), (917556, (.int 917556 414)), (917557, (.int 917557 415)), (917558, (.int 917558 416)), (917559, (.int 917559 417)), (917560, (.int 917560 418)), (917561, (.int 917561 419)), (917562, (.int 917562 420)), (917563, (.int 917563 421)), (917564, (.int 917564 422)), (917565, (.int 917565 423))] 33 { mask := 127, place := #[1, 32, 33, 34, 35, 36, 37, 38, 39, 40, 41, 42, 43, 44, 45, 46, 47, 48, 49, 50, 51, 52, 53, 54, 55, 56, 57, 58, 59, 60, 61], dummies := #[], finger := 0, led := !P.followText "set-order", moves := 2, plain := true }, slots := #[] }
noncomputable def x157v31 (P : Params) : Obj := { cls := (.type "list_iterator"), dict := none, data := .fields #[(.ref 155), (.int 31 0)], slots := #[] }
noncomputable def x156v32 (P : Params) : Obj := { cls := (.type "set"), dict := none, data := .set #[(917505, (.int 917505 388)), (917536, (.int 917536 394)), (917537, (.int 917537 395)), (917538, (.int 917538 396)), (917539, (.int 917539 397)), (917540, (.int 917540 398)), (917541, (.int 917541 399)), (917542, (.int 917542 400)), (917543, (.int 917543 401)), (917544, (.int 917544 402)), (917545, (.int 917545 403)), (917546, (.int 917546 404)), (917547, (.int 917547 405)), (917548, (.int 917548 406)), (917549, (.int 917549 407)), (917550, (.int 917550 408)), (917551, (.int 917551 409)), (917552, (.int 917552 410)), (917553, (.int 917553 411)), (917554, (.int 917554 412)), (917555, (.int 917555 413)), (917556, (.int 917556 414)), (917557, (.int 917557 415)), (917558, (.int 917558 416)), (917559, (.int 917559 417)), (917560, (.int 917560 418)), (917561, (.int 917561 419)), (917562, (.int 917562 420)), (917563, (.int 917563 421)), (917564, (.int 917564 422)), (917565, (.int 917565 423)), (917566, (.int 917566 424))] 34 { mask := 127, place := #[1, 32, 33, 34, 35, 36, 37, 38, 39, 40, 41, 42, 43, 44, 45, 46, 47, 48, 49, 50, 51, 52, 53, 54, 55, 56, 57, 58, 59, 60, 61, 62], dummies := #[], finger := 0, led := !P.followText "set-order", moves := 2, plain := true }, slots := #[] }
noncomputable def x157v32 (P : Params) : Obj := { cls := (.type "list_iterator"), dict := none, data := .fields #[(.ref 155), (.int 32 0)], slots := #[] }
noncomputable def x156v33 (P : Params) : Obj := { cls := (.type "set"), dict := none, data := .set #[(917505, (.int 917505 388)), (917536, (.int 917536 394)), (917537, (.int 917537 395)), (917538, (.int 917538 396)), (917539, (.int 917539 397)), (917540, (.int 917540 398)), (917541, (.int 917541 399)), (917542, (.int 917542 400)), (917543, (.int 917543 401)), (917544, (.int 917544 402)), (917545, (.int 917545 403)), (917546, (.int 917546 404)), (917547, (.int 917547 405)), (917548, (.int 917548 406)), (917549, (.int 917549 407)), (917550, (.int 917550 408)), (917551, (.int 917551 409)), (917552, (.int 917552 410)), (917553, (.int 917553 411)), (917554, (.int 917554 412)), (917555, (.int 917555 413)), (917556, (.int 917556 414)), (917557, (.int 917557 415)), (917558, (.int 917558 416)), (917559, (.int 917559 417)), (917560, (.int 917560 418)), (917561, (.int 917561 419)), (917562, (.int 917562 420)), (917563, (.int 917563 421)), (917564, (.int 917564 422)), (917565, (.int 917565 423)), (917566, (.int 917566 424)), (917567, (.int 917567 425))] 35 { mask := 127, place := #[1, 32, 33, 34, 35, 36, 37, 38, 39, 40, 41, 42, 43, 44, 45, 46, 47, 48, 49, 50, 51, 52, 53, 54, 55, 56, 57, 58, 59, 60, 61, 62, 63], dummies := #[], finger := 0, led := !P.followText "set-order", moves := 2, plain := true }, slots := #[] }
noncomputable def x157v33 (P : Params) : Obj := { cls := (.type "list_iterator"), dict := none, data := .fields #[(.ref 155), (.int 33 0)], slots := #[] }
noncomputable def x156v34 (P : Params) : Obj := { cls := (.type "set"), dict := none, data := .set #[(917505, (.int 917505 388)), (917536, (.int 917536 394)), (917537, (.int 917537 395)), (917538, (.int 917538 396)), (917539, (.int 917539 397)), (917540, (.int 917540 398)), (917541, (.int 917541 399)), (917542, (.int 917542 400)), (917543, (.int 917543 401)), (917544, (.int 917544 402)), (917545, (.int 917545 403)), (917546, (.int 917546 404)), (917547, (.int 917547 405)), (917548, (.int 917548 406)), (917549, (.int 917549 407)), (917550, (.int 917550 408)), (917551, (.int 917551 409)), (917552, (.int 917552 410)), (917553, (.int 917553 411)), (917554, (.int 917554 412)), (917555, (.int 917555 413)), (917556, (.int 917556 414)), (917557, (.int 917557 415)), (917558, (.int 917558 416)), (917559, (.int 917559 417)), (917560, (.int 917560 418)), (917561, (.int 917561 419)), (917562, (.int 917562 420)), (917563, (.int 917563 421)), (917564, (.int 917564 422)), (917565, (.int 917565 423)), (917566, (.int 917566 424)), (917567, (.int 917567 425)), (917568, (.int 917568 426))] 36 { mask := 127, place := #[1, 32, 33, 34, 35, 36, 37, 38, 39, 40, 41, 42, 43, 44, 45, 46, 47, 48, 49, 50, 51, 52, 53, 54, 55, 56, 57, 58, 59, 60, 61, 62, 63, 64], dummies := #[], finger := 0, led := !P.followText "set-order", moves := 2, plain := true }, slots := #[] }
noncomputable def x157v34 (P : Params) : Obj := { cls := (.type "list_iterator"), dict := none, data := .fields #[(.ref 155), (.int 34 0)], slots := #[] }
noncomputable def x156v35 (P : Params) : Obj := { cls := (.type "set"), dict := none, data := .set #[(917505, (.int 917505 388)), (917536, (.int 917536 394)), (917537, (.int 917537 395)), (917538, (.int 917538 396)), (917539, (.int 917539 397)), (917540, (.int 917540 398)), (917541, (.int 917541 399)), (917542, (.int 917542 400)), (917543, (.int 917543 401)), (917544, (.int 917544 402)), (917545, (.int 917545 403)), (917546, (.int 917546 404)), (917547, (.int 917547 405)), (917548, (.int 917548 406)), (917549, (.int 917549 407)), (917550, (.int 917550 408)), (917551, (.int 917551 409)), (917552, (.int 917552 410)), (917553, (.int 917553 411)), (917554, (.int 917554 412)), (917555, (.int 917555 413)), (917556, (.int 917556 414)), (917557, (.int 917557 415)), (917558, (.int 917558 416)), (917559, (.int 917559 417)), (917560, (.int 917560 418)), (917561, (.int 917561 419)), (917562, (.int 917562 420)), (917563, (.int 917563 421)), (917564, (.int 917564 422)), (917565, (.int 917565 423)), (917566, (.int 917566 424)), (917567, (.int 917567 425)), (917568, (.int 917568 426)), (917569, (.int 917569 427))] 37 { mask := 127, place := #[1, 32, 33, 34, 35, 36, 37, 38, 39, 40, 41, 42, 43, 44, 45, 46, 47, 48, 49, 50, 51, 52, 53, 54, 55, 56, 57, 58, 59, 60, 61, 62, 63, 64, 65], dummies := #[], finger := 0, led := !P.followText "set-order", moves := 2, plain := true }, slots := #[] }
noncomputable def x157v35 (P : Params) : Obj := { cls := (.type "list_iterator"), dict := none, data := .fields #[(.ref 155), (.int 35 0)], slots := #[] }
noncomputable def x156v36 (P : Params) : Obj := { cls := (.type "set"), dict := none, data := .set #[(917505, (.int 917505 388)), (917536, (.int 917536 394)), (917537, (.int 917537 395)), (917538, (.int 917538 396)), (917539, (.int 917539 397)), (917540, (.int 917540 398)), (917541, (.int 917541 399)), (917542, (.int 917542 400)), (917543, (.int 917543 401)), (917544, (.int 917544 402)), (917545, (.int 917545 403)), (917546, (.int 917546 404)), (917547, (.int 917547 405)), (917548, (.int 917548 406)), (917549, (.int 917549 407)), (917550, (.int 917550 408)), (917551, (.int 917551 409)), (917552, (.int 917552 410)), (917553, (.int 917553 411)), (917554, (.int 917554 412)), (917555, (.int 917555 413)), (917556, (.int 917556 414)), (917557, (.int 917557 415)), (917558, (.int 917558 416)), (917559, (.int 917559 417)), (917560, (.int 917560 418)), (917561, (.int 917561 419)), (917562, (.int 917562 420)), (917563, (.int 917563 421)), (917564, (.int 917564 422)), (917565, (.int 917565 423)), (917566, (.int 917566 424)), (917567, (.int 917567 425)), (917568, (.int 917568 426)), (917569, (.int 917569 427)), (917570, (.int 917570 428))] 38 { mask := 127, place := #[1, 32, 33, 34, 35, 36, 37, 38, 39, 40, 41, 42, 43, 44, 45, 46, 47, 48, 49, 50, 51, 52, 53, 54, 55, 56, 57, 58, 59, 60, 61, 62, 63, 64, 65, 66], dummies := #[], finger := 0, led := !P.followText "set-order", moves := 2, plain := true }, slots := #[] }
noncomputable def x157v36 (P : Params) : Obj := { cls := (.type "list_iterator"), dict := none, data := .fields #[(.ref 155), (.int 36 0)], slots := #[] }
noncomputable def x156v37 (P : Params) : Obj := { cls := (.type "set"), dict := none, data := .set #[(917505, (.int 917505 388)), (917536, (.int 917536 394)), (917537, (.int 917537 395)), (917538, (.int 917538 396)), (917539, (.int 917539 397)), (917540, (.int 917540 398)), (917541, (.int 917541 399)), (917542, (.int 917542 400)), (917543, (.int 917543 401)), (917544, (.int 917544 402)), (917545, (.int 917545 403)), (917546, (.int 917546 404)), (917547, (.int 917547 405)), (917548, (.int 917548 406)), (917549, (.int 917549 407)), (917550, (.int 917550 408)), (917551, (.int 917551 409)), (917552, (.int 917552 410)), (917553, (.int 917553 411)), (917554, (.int 917554 412)), (917555, (.int 917555 413)), (917556, (.int 917556 414)), (917557, (.int 917557 415)), (917558, (.int 917558 416)), (917559, (.int 917559 417)), (917560, (.int 917560 418)), (917561, (.int 917561 419)), (917562, (.int 917562 420)), (917563, (.int 917563 421)), (917564, (.int 917564 422)), (917565, (.int 917565 423)), (917566, (.int 917566 424)), (917567, (.int 917567 425)), (917568, (.int 917568 426)), (917569, (.int 917569 427)), (917570, (.int 917570 428)), (917571, (.int 917571 429))] 39 { mask := 127, place := #[1, 32, 33, 34, 35, 36, 37, 38, 39, 40, 41, 42, 43, 44, 45, 46, 47, 48, 49, 50, 51, 52, 53, 54, 55, 56, 57, 58, 59, 60, 61, 62, 63, 64, 65, 66, 67], dummies := #[], finger := 0, led := !P.followText "set-order", moves := 2, plain := true }, slots := #[] }
noncomputable def x157v37 (P : Params) : Obj := { cls := (.type "list_iterator"), dict := none, data := .fields #[(.ref 155), (.int 37 0)], slots := #[] }
noncomputable def x156v38 (P : Params) : Obj := { cls := (.type "set"), dict := none, data := .set #[(917505, (.int 917505 388)), (917536, (.int 917536 394)), (917537, (.int 917537 395)), (917538, (.int 917538 396)), (917539, (.int 917539 397)), (917540, (.int 917540 398)), (917541, (.int 917541 399)), (917542, (.int 917542 400)), (917543, (.int 917543 401)), (917544, (.int 917544 402)), (917545, (.int 917545 403)), (917546, (.int 917546 404)), (917547, (.int 917547 405)), (917548, (.int 917548 406)), (917549, (.int 917549 407)), (917550, (.int 917550 408)), (917551, (.int 917551 409)), (917552, (.int 917552 410)), (917553, (.int 917553 411)), (917554, (.int 917554 412)), (917555, (.int 917555 413)), (917556, (.int 917556 414)), (917557, (.int 917557 415)), (917558, (.int 917558 416)), (917559, (.int 917559 417)), (917560, (.int 917560 418)), (917561, (.int 917561 419)), (917562, (.int 917562 420)), (917563, (.int 917563 421)), (917564, (.int 917564 422)), (917565, (.int 917565 423)), (917566, (.int 917566 424)), (917567, (.int 917567 425)), (917568, (.int 917568 426)), (917569, (.int 917569 427)), (917570, (.int 917570 428)), (917571, (.int 917571 429)), (917572, (.int 917572 430))] 40 { mask := 127, place := #[1, 32, 33, 34, 35, 36, 37, 38, 39, 40, 41, 42, 43, 44, 45, 46, 47, 48, 49, 50, 51, 52, 53, 54, 55, 56, 57, 58, 59, 60, 61, 62, 63, 64, 65, 66, 67, 68], dummies := #[], finger := 0, led := !P.followText "set-order", moves := 2, plain := true }, slots := #[] }
noncomputable def x157v38 (P : Params) : Obj := { cls := (.type "list_iterator"), dict := none, data := .fields #[(.ref 155), (.int 38 0)], slots := #[] }
noncomputable def x156v39 (P : Params) : Obj := { cls := (.type "set"), dict := none, data := .set #[(917505, (.int 917505 388)), (917536, (.int 917536 394)), (917537, (.int 917537 395)), (917538, (.int 917538 396)), (917539, (.int 917539 397)), (917540, (.int 917540 398)), (917541, (.int 917541 399)), (917542, (.int 917542 400)), (917543, (.int 917543 401)), (917544, (.int 917544 402)), (917545, (.int 917545 403)), (917546, (.int 917546 404)), (917547, (.int 917547 405)), (917548, (.int 917548 406)), (917549, (.int 917549 407)), (917550, (.int 917550 408)), (917551, (.int 917551 409)), (917552, (.int 917552 410)), (917553, (.int 917553 411)), (917554, (.int 917554 412)), (917555, (.int 917555 413)), (917556, (.int 917556 414)), (917557, (.int 917557 415)), (917558, (.int 917558 416)), (917559, (.int 917559 417)), (917560, (.int 917560 418)), (917561, (.int 917561 419)), (917562, (.int 917562 420)), (917563, (.int 917563 421)), (917564, (.int 917564 422)), (917565, (.int 917565 423)), (917566, (.int 917566 424)), (917567, (.int 917567 425)), (917568, (.int 917568 426)), (917569, (.int 917569 427)), (917570, (.int 917570 428)), (917571, (.int 917571 429)), (917572, (.int 917572 430)), (917573, (.int 917573 431))] 41 { mask := 127, place := #[1, 32, 33, 34, 35, 36, 37, 38, 39, 40, 41, 42, 43, 44, 45, 46, 47, 48, 49, 50, 51, 52, 53, 54, 55, 56, 57, 58, 59, 60, 61, 62, 63, 64, 65, 66, 67, 68, 69], dummies := #[], finger := 0, led := !P.followText "set-order", moves := 2, plain := true }, slots := #[] }
noncomputable def x157v39 (P : Params) : Obj := { cls := (.type "list_iterator"), dict := none, data := .fields #[(.ref 155), (.int 39 0)], slots := #[] }
noncomputable def x156v40 (P : Params) : Obj := { cls := (.type "set"), dict := none, data := .set #[(917505, (.int 917505 388)), (917536, (.int 917536 394)), (917537, (.int 917537 395)), (917538, (.int 917538 396)), (917539, (.int 917539 397)), (917540, (.int 917540 398)), (917541, (.int 917541 399)), (917542, (.int 917542 400)), (917543, (.int 917543 401)), (917544, (.int 917544 402)), (917545, (.int 917545 403)), (917546, (.int 917546 404)), (917547, (.int 917547 405)), (917548, (.int 917548 406)), (917549, (.int 917549 407)), (917550, (.int 917550 408)), (917551, (.int 917551 409)), (917552, (.int 917552 410)), (917553, (.int 917553 411)), (917554, (.int 917554 412)), (917555, (.int 917555 413)), (917556, (.int 917556 414)), (917557, (.int 917557 415)), (917558, (.int 917558 416)), (917559, (.int 917559 417)), (917560, (.int 917560 418)), (917561, (.int 917561 419)), (917562, (.int 917562 420)), (917563, (.int 917563 421)), (917564, (.int 917564 422)), (917565, (.int 917565 423)), (917566, (.int 917566 424)), (917567, (.int 917567 425)), (917568, (.int 917568 426)), (917569, (.int 917569 427)), (917570, (.int 917570 428)), (917571, (.int 917571 429)), (917572, (.int 917572 430)), (917573, (.int 917573 431)), (917574, (.int 917574 432))] 42 { mask := 127, place := #[1, 32, 33, 34, 35, 36, 37, 38, 39, 40, 41, 42, 43, 44, 45, 46, 47, 48, 49, 50, 51, 52, 53, 54, 55, 56, 57, 58, 59, 60, 61, 62, 63, 64, 65, 66, 67, 68, 69, 70], dummies := #[], finger := 0, led := !P.followText "set-order", moves := 2, plain := true }, slots := #[] }
noncomputable def x157v40 (P : Params) : Obj := { cls := (.type "list_iterator"), dict := none, data := .fields #[(.ref 155), (.int 40 0)], slots := #[] }
noncomputable def x156v41 (P : Params) : Obj := { cls := (.type "set"), dict := none, data := .set #[(917505, (.int 917505 388)), (917536, (.int 917536 394)), (917537, (.int 917537 395)), (917538, (.int 917538 396)), (917539, (.int 917539 397)), (917540, (.int 917540 398)), (917541, (.int 917541 399)), (917542, (.int 917542 400)), (917543, (.int 917543 401)), (917544, (.int 917544 402)), (917545, (.int 917545 403)), (917546, (.int 917546 404)), (917547, (.int 917547 405)), (917548, (.int 917548 406)), (917549, (.int 917549 407)), (917550, (.int 917550 408)), (917551, (.int 917551 409)), (917552, (.int 917552 410)), (917553, (.int 917553 411)), (917554, (.int 917554 412)), (917555, (.int 917555 413)), (917556, (.int 917556 414)), (917557, (.int 917557 415)), (917558, (.int 917558 416)), (917559, (.int 917559 417)), (917560, (.int 917560 418)), (917561, (.int 917561 419)), (917562, (.int 917562 420)), (917563, (.int 917563 421)), (917564, (.int 917564 422)), (917565, (.int 917565 423)), (917566, (.int 917566 424)), (917567, (.int 917567 425)), (917568, (.int 917568 426)), (917569, (.int 917569 427)), (917570, (.int 917570 428)), (917571, (.int 917571 429)), (917572, (.int 917572 430)), (917573, (.int 917573 431)), (917574, (.int 917574 432)), (917575, (.int 917575 433))] 43 { mask := 127, place := #[1, 32, 33, 34, 35, 36, 37, 38, 39, 40, 41, 42, 43, 44, 45, 46, 47, 48, 49, 50, 51, 52, 53, 54, 55, 56, 57, 58, 59, 60, 61, 62, 63, 64, 65, 66, 67, 68, 69, 70, 71], dummies := #[], finger := 0, led := !P.followText "set-order", moves := 2, plain := true }, slots := #[] }
noncomputable def x157v41 (P : Params) : Obj := { cls := (.type "list_iterator"), dict := none, data := .fields #[(.ref 155), (.int 41 0)], slots := #[] }
noncomputable def x156v42 (P : Params) : Obj := { cls := (.type "set"), dict := none, data := .set #[(917505, (.int 917505 388)), (917536, (.int 917536 394)), (917537, (.int 917537 395)), (917538, (.int 917538 396)), (917539, (.int 917539 397)), (917540, (.int 917540 398)), (917541, (.int 917541 399)), (917542, (.int 917542 400)), (917543, (.int 917543 401)), (917544, (.int 917544 402)), (917545, (.int 917545 403)), (917546, (.int 917546 404)), (917547, (.int 917547 405)), (917548, (.int 917548 406)), (917549, (.int 917549 407)), (917550, (.int 917550 408)), (917551, (.int 917551 409)), (917552, (.int 917552 410)), (917553, (.int 917553 411)), (917554, (.int 917554 412)), (917555, (.int 917555 413)), (917556, (.int 917556 414)), (917557, (.int 917557 415)), (917558, (.int 917558 416)), (917559, (.int 917559 417)), (917560, (.int 917560 418)), (917561, (.int 917561 419)), (917562, (.int 917562 420)), (917563, (.int 917563 421)), (917564, (.int 917564 422)), (917565, (.int 917565 423)), (917566, (.int 917566 424)), (917567, (.int 917567 425)), (917568, (.int 917568 426)), (917569, (.int 917569 427)), (917570, (.int 917570 428)), (917571, (.int 917571 429)), (917572, (.int 917572 430)), (917573, (.int 917573 431)), (917574, (.int 917574 432)), (917575, (.int 917575 433)), (917576, (.int 917576 434))] 44 { mask := 127, place := #[1, 32, 33, 34, 35, 36, 37, 38, 39, 40, 41, 42, 43, 44, 45, 46, 47, 48, 49, 50, 51, 52, 53, 54, 55, 56, 57, 58, 59, 60, 61, 62, 63, 64, 65, 66, 67, 68, 69, 70, 71, 72], dummies := #[], finger := 0, led := !P.followText "set-order", moves := 2, plain := true }, slots := #[] }
noncomputable def x157v42 (P : Params) : Obj := { cls := (.type "list_iterator"), dict := none, data := .fields #[(.ref 155), (.int 42 0)], slots := #[] }
noncomputable def x156v43 (P : Params) : Obj := { cls := (.type "set"), dict := none, data := .set #[(917505, (.int 917505 388)), (917536, (.int 917536 394)), (917537, (.int 917537 395)), (917538, (.int 917538 396)), (917539, (.int 917539 397)), (917540, (.int 917540 398)), (917541, (.int 917541 399)), (917542, (.int 917542 400)), (917543, (.int 917543 401)), (917544, (.int 917544 402)), (917545, (.int 917545 403)), (917546, (.int 917546 404)), (917547, (.int 917547 405)), (917548, (.int 917548 406)), (917549, (.int 917549 407)), (917550, (.int 917550 408)), (917551, (.int 917551 409)), (917552, (.int 917552 410)), (917553, (.int 917553 411)), (917554, (.int 917554 412)), (917555, (.int 917555 413)), (917556, (.int 917556 414)), (917557, (.int 917557 415)), (917558, (.int 917558 416)), (917559, (.int 917559 417)), (917560, (.int 917560 418)), (917561, (.int 917561 419)), (917562, (.int 917562 420)), (917563, (.int 917563 421)), (917564, (.int 917564 422)), (917565, (.int 917565 423)), (917566, (.int 917566 424)), (917567, (.int 917567 425)), (917568, (.int 917568 426)), (917569, (.int 917569 427)), (917570, (.int 917570 428)), (917571, (.int 917571 429)), (917572, (.int 917572 430)), (917573, (.int 917573 431)), (917574, (.int 917574 432)), (917575, (.int 917575 433)), (917576, (.int 917576 434)), (917577, (.int 917577 435))] 45 { mask := 127, place := #[1, 32, 33, 34, 35, 36, 37, 38, 39, 40, 41, 42, 43, 44, 45, 46, 47, 48, 49, 50, 51, 52, 53, 54, 55, 56, 57, 58, 59, 60, 61, 62, 63, 64, 65, 66, 67, 68, 69, 70, 71, 72, 73], dummies := #[], finger := 0, led := !P.followText "set-order", moves := 2, plain := true }, slots := #[] }
noncomputable def x157v43 (P : Params) : Obj := { cls := (.type "list_iterator"), dict := none, data := .fields #[(.ref 155), (.int 43 0)], slots := #[] }
noncomputable def x156v44 (P : Params) : Obj := { cls := (.type "set"), dict := none, data := .set #[(917505, (.int 917505 388)), (917536, (.int 917536 394)), (917537, (.int 917537 395)), (917538, (.int 917538 396)), (917539, (.int 917539 397)), (917540, (.int 917540 398)), (917541, (.int 917541 399)), (917542, (.int 917542 400)), (917543, (.int 917543 401)), (917544, (.int 917544 402)), (917545, (.int 917545 403)), (917546, (.int 917546 404)), (917547, (.int 917547 405)), (917548, (.int 917548 406)), (917549, (.int 917549 407)), (917550, (.int 917550 408)), (917551, (.int 917551 409)), (917552, (.int 917552 410)), (917553, (.int 917553 411)), (917554, (.int 917554 412)), (917555, (.int 917555 413)), (917556, (.int 917556 414)), (917557, (.int 917557 415)), (917558, (.int 917558 416)), (917559, (.int 917559 417)), (917560, (.int 917560 418)), (917561, (.int 917561 419)), (917562, (.int 917562 420)), (917563, (.int 917563 421)), (917564, (.int 917564 422)), (917565, (.int 917565 423)), (917566, (.int 917566 424)), (917567, (.int 917567 425)), (917568, (.int 917568 426)), (917569, (.int 917569 427)), (917570, (.int 917570 428)), (917571, (.int 917571 429)), (917572, (.int 917572 430)), (917573, (.int 917573 431)), (917574, (.int 917574 432)), (917575, (.int 917575 433)), (917576, (.int 917576 434)), (917577, (.int 917577 435)), (917578, (.int 917578 436))] 46 { mask := 127, place := #[1, 32, 33, 34, 35, 36, 37, 38, 39, 40, 41, 42, 43, 44, 45, 46, 47, 48, 49, 50, 51, 52, 53, 54, 55, 56, 57, 58, 59, 60, 61, 62, 63, 64, 65, 66, 67, 68, 69, 70, 71, 72, 73, 74], dummies := #[], finger := 0, led := !P.followText "set-order", moves := 2, plain := true }, slots := #[] }
noncomputable def x157v44 (P : Params) : Obj := { cls := (.type "list_iterator"), dict := none, data := .fields #[(.ref 155), (.int 44 0)], slots := #[] }
noncomputable def x156v45 (P : Params) : Obj := { cls := (.type "set"), dict := none, data := .set #[(917505, (.int 917505 388)), (917536, (.int 917536 394)), (917537, (.int 917537 395)), (917538, (.int 917538 396)), (917539, (.int 917539 397)), (917540, (.int 917540 398)), (917541, (.int 917541 399)), (917542, (.int 917542 400)), (917543, (.int 917543 401)), (917544, (.int 917544 402)), (917545, (.int 917545 403)), (917546, (.int 917546 404)), (917547, (.int 917547 405)), (917548, (.int 917548 406)), (917549, (.int 917549 407)), (917550, (.int 917550 408)), (917551, (.int 917551 409)), (917552, (.int 917552 410)), (917553, (.int 917553 411)), (917554, (.int 917554 412)), (917555, (.int 917555 413)), (917556, (.int 917556 414)), (917557, (.int 917557 415)), (917558, (.int 917558 416)), (917559, (.int 917559 417)), (917560, (.int 917560 418)), (917561, (.int 917561 419)), (917562, (.int 917562 420)), (917563, (.int 917563 421)), (917564, (.int 917564 422)), (917565, (.int 917565 423)), (917566, (.int 917566 424)), (917567, (.int 917567 425)), (917568, (.int 917568 426)), (917569, (.int 917569 427)), (917570, (.int 917570 428)), (917571, (.int 917571 429)), (917572, (.int 917572 430)), (917573, (.int 917573 431)), (917574, (.int 917574 432)), (917575, (.int 917575 433)), (917576, (.int 917576 434)), (917577, (.int 917577 435)), (917578, (.int 917578 436)), (917579, (.int 917579 437))] 47 { mask := 127, place := #[1, 32, 33, 34, 35, 36, 37, 38, 39, 40, 41, 42, 43, 44, 45, 46, 47, 48, 49, 50, 51, 52, 53, 54, 55, 56, 57, 58, 59, 60, 61, 62, 63, 64, 65, 66, 67, 68, 69, 70, 71, 72, 73, 74, 75], dummies := #[], finger := 0, led := !P.followText "set-order", moves := 2, plain := true }, slots := #[] }
noncomputable def x157v45 (P : Params) : Obj := { cls := (.type "list_iterator"), dict := none, data := .fields #[(.ref 155), (.int 45 0)], slots := #[] }
noncomputable def x156v46 (P : Params) : Obj := { cls := (.type "set"), dict := none, data := .set #[(917505, (.int 917505 388)), (917536, (.int 917536 394)), (917537, (.int 917537 395)), (917538, (.int 917538 396)), (917539, (.int 917539 397)), (917540, (.int 917540 398)), (917541, (.int 917541 399)), (917542, (.int 917542 400)), (917543, (.int 917543 401)), (917544, (.int 917544 402)), (917545, (.int 917545 403)), (917546, (.int 917546 404)), (917547, (.int 917547 405)), (917548, (.int 917548 406)), (917549, (.int 917549 407)), (917550, (.int 917550 408)), (917551, (.int 917551 409)), (917552, (.int 917552 410)), (917553, (.int 917553 411)), (917554, (.int 917554 412)), (917555, (.int 917555 413)), (917556, (.int 917556 414)), (917557, (.int 917557 415)), (917558, (.int 917558 416)), (917559, (.int 917559 417)), (917560, (.int 917560 418)), (917561, (.int 917561 419)), (917562, (.int 917562 420)), (917563, (.int 917563 421)), (917564, (.int 917564 422)), (917565, (.int 917565 423)), (917566, (.int 917566 424)), (917567, (.int 917567 425)), (917568, (.int 917568 426)), (917569, (.int 917569 427)), (917570, (.int 917570 428)), (917571, (.int 917571 429)), (917572, (.int 917572 430)), (917573, (.int 917573 431)), (917574, (.int 917574 432)), (917575, (.int 917575 433)), (917576, (.int 917576 434)), (917577, (.int 917577 435)), (917578, (.int 917578 436)), (917579, (.int 917579 437)), (917580, (.int 917580 438))] 48 { mask := 127, place := #[1, 32, 33, 34, 35, 36, 37, 38, 39, 40, 41, 42, 43, 44, 45, 46, 47, 48, 49, 50, 51, 52, 53, 54, 55, 56, 57, 58, 59, 60, 61, 62, 63, 64, 65, 66, 67, 68, 69, 70, 71, 72, 73, 74, 75, 76], dummies := #[], finger := 0, led := !P.followText "set-order", moves := 2, plain := true }, slots := #[] }
noncomputable def x157v46 (P : Params) : Obj := { cls := (.type "list_iterator"), dict := none, data := .fields #[(.ref 155), (.int 46 0)], slots := #[] }
noncomputable def x156v47 (P : Params) : Obj := { cls := (.type "set"), dict := none, data := .set #[(917505, (.int 917505 388)), (917536, (.int 917536 394)), (917537, (.int 917537 395)), (917538, (.int 917538 396)), (917539, (.int 917539 397)), (917540, (.int 917540 398)), (917541, (.int 917541 399)), (917542, (.int 917542 400)), (917543, (.int 917543 401)), (917544, (.int 917544 402)), (917545, (.int 917545 403)), (917546, (.int 917546 404)), (917547, (.int 917547 405)), (917548, (.int 917548 406)), (917549, (.int 917549 407)), (917550, (.int 917550 408)), (917551, (.int 917551 409)), (917552, (.int 917552 410)), (917553, (.int 917553 411)), (917554, (.int 917554 412)), (917555, (.int 917555 413)), (917556, (.int 917556 414)), (917557, (.int 917557 415)), (917558, (.int 917558 416)), (917559, (.int 917559 417)), (917560, (.int 917560 418)), (917561, (.int 917561 419)), (917562, (.int 917562 420)), (917563, (.int 917563 421)), (917564, (.int 917564 422)), (917565, (.int 917565 423)), (917566, (.int 917566 424)), (917567, (.int 917567 425)), (917568, (.int 917568 426)), (917569, (.int 917569 427)), (917570, (.int 917570 428)), (917571, (.int 917571 429)), (917572, (.int 917572 430)), (917573, (.int 917573 431)), (917574, (.int 917574 432)), (917575, (.int 917575 433)), (917576, (.int 917576 434)), (917577, (.int 917577 435)), (917578, (.int 917578 436)), (917579, (.int 917579 437)), (917580, (.int 917580 438)), (917581, (.int 917581 439))] 49 { mask := 127, place := #[1, 32, 33, 34, 35, 36, 37, 38, 39, 40, 41, 42, 43, 44, 45, 46, 47, 48, 49, 50, 51, 52, 53, 54, 55, 56, 57, 58, 59, 60, 61, 62, 63, 64, 65, 66, 67, 68, 69, 70, 71, 72, 73, 74, 75, 76, 77], dummies := #[], finger := 0, led := !P.followText "set-order", moves := 2, plain := true }, slots := #[] }
noncomputable def x157v47 (P : Params) : Obj := { cls := (.type "list_iterator"), dict := none, data := .fields #[(.ref 155), (.int 47 0)], slots := #[] }
noncomputable def x156v48 (P : Params) : Obj := { cls := (.type "set"), dict := none, data := .set #[(917505, (.int 917505 388)), (917536, (.int 917536 394)), (917537, (.int 917537 395)), (917538, (.int 917538 396)), (917539, (.int 917539 397)), (917540, (.int 917540 398)), (917541, (.int 917541 399)), (917542, (.int 917542 400)), (917543, (.int 917543 401)), (917544, (.int 917544 402)), (917545, (.int 917545 403)), (917546, (.int 917546 404)), (917547, (.int 917547 405)), (917548, (.int 917548 406)), (917549, (.int 917549 407)), (917550, (.int 917550 408)), (917551, (.int 917551 409)), (917552, (.int 917552 410)), (917553, (.int 917553 411)), (917554, (.int 917554 412)), (917555, (.int 917555 413)), (917556, (.int 917556 414)), (917557, (.int 917557 415)), (917558, (.int 917558 416)), (917559, (.int 917559 417)), (917560, (.int 917560 418)), (917561, (.int 917561 419)), (917562, (.int 917562 420)), (917563, (.int 917563 421)), (917564, (.int 917564 422)), (917565, (.int 917565 423)), (917566, (.int 917566 424)), (917567, (.int 917567 425)), (917568, (.int 917568 426)), (917569, (.int 917569 427)), (917570, (.int 917570 428)), (917571, (.int 917571 429)), (917572, (.int 917572 430)), (917573, (.int 917573 431)), (917574, (.int 917574 432)), (917575, (.int 917575 433)), (917576, (.int 917576 434)), (917577, (.int 917577 435)), (917578, (.int 917578 436)), (917579, (.int 917579 437)), (917580, (.int 917580 438)), (917581, (.int 917581 439)), (917582, (.int 917582 440))] 50 { mask := 127, place := #[1, 32, 33, 34, 35, 36, 37, 38, 39, 40, 41, 42, 43, 44, 45, 46, 47, 48, 49, 50, 51, 52, 53, 54, 55, 56, 57, 58, 59, 60, 61, 62, 63, 64, 65, 66, 67, 68, 69, 70, 71, 72, 73, 74, 75, 76, 77, 78], dummies := #[], finger := 0, led := !P.followText "set-order", moves := 2, plain := true }, slots := #[] }
noncomputable def x157v48 (P : Params) : Obj := { cls := (.type "list_iterator"), dict := none, data := .fields #[(.ref 155), (.int 48 0)], slots := #[] }
noncomputable def x156v49 (P : Params) : Obj := { cls := (.type "set"), dict := none, data := .set #[(917505, (.int 917505 388)), (917536, (.int 917536 394)), (917537, (.int 917537 395)), (917538, (.int 917538 396)), (917539, (.int 917539 397)), (917540, (.int 917540 398)), (917541, (.int 917541 399)), (917542, (.int 917542 400)), (917543, (.int 917543 401)), (917544, (.int 917544 402)), (917545, (.int 917545 403)), (917546, (.int 917546 404)), (917547, (.int 917547 405)), (917548, (.int 917548 406)), (917549, (.int 917549 407)), (917550, (.int 917550 408)), (917551, (.int 917551 409)), (917552, (.int 917552 410)), (917553, (.int 917553 411)), (917554, (.int 917554 412)), (917555, (.int 917555 413)), (917556, (.int 917556 414)), (917557, (.int 917557 415)), (917558, (.int 917558 416)), (917559, (.int 917559 417)), (917560, (.int 917560 418)), (917561, (.int 917561 419)), (917562, (.int 917562 420)), (917563, (.int 917563 421)), (917564, (.int 917564 422)), (917565, (.int 917565 423)), (917566, (.int 917566 424)), (917567, (.int 917567 425)), (917568, (.int 917568 426)), (917569, (.int 917569 427)), (917570, (.int 917570 428)), (917571, (.int 917571 429)), (917572, (.int 917572 430)), (917573, (.int 917573 431)), (917574, (.int 917574 432)), (917575, (.int 917575 433)), (917576, (.int 917576 434)), (917577, (.int 917577 435)), (917578, (.int 917578 436)), (917579, (.int 917579 437)), (917580, (.int 917580 438)), (917581, (.int 917581 439)), (917582, (.int 917582 440)), (917583, (.int 917583 441))] 51 { mask := 127, place := #[1, 32, 33, 34, 35, 36, 37, 38, 39, 40, 41, 42, 43, 44, 45, 46, 47, 48, 49, 50, 51, 52, 53, 54, 55, 56, 57, 58, 59, 60, 61, 62, 63, 64, 65, 66, 67, 68, 69, 70, 71, 72, 73, 74, 75, 76, 77, 78, 79], dummies := #[], finger := 0, led := !P.followText "set-order", moves := 2, plain := true }, slots := #[] }
noncomputable def x157v49 (P : Params) : Obj := { cls := (.type "list_iterator"), dict := none, data := .fields #[(.ref 155), (.int 49 0)], slots := #[] }
noncomputable def x156v50 (P : Params) : Obj := { cls := (.type "set"), dict := none, data := .set #[(917505, (.int 917505 388)), (917536, (.int 917536 394)), (917537, (.int 917537 395)), (917538, (.int 917538 396)), (917539, (.int 917539 397)), (917540, (.int 917540 398)), (917541, (.int 917541 399)), (917542, (.int 917542 400)), (917543, (.int 917543 401)), (917544, (.int 917544 402)), (917545, (.int 917545 403)), (917546, (.int 917546 404)), (917547, (.int 917547 405)), (917548, (.int 917548 406)), (917549, (.int 917549 407)), (917550, (.int 917550 408)), (917551, (.int 917551 409)), (917552, (.int 917552 410)), (917553, (.int 917553 411)), (917554, (.int 917554 412)), (917555, (.int 917555 413)), (917556, (.int 917556 414)), (917557, (.int 917557 415)), (917558, (.int 917558 416)), (917559, (.int 917559 417)), (917560, (.int 917560 418)), (917561, (.int 917561 419)), (917562, (.int 917562 420)), (917563, (.int 917563 421)), (917564, (.int 917564 422)), (917565, (.int 917565 423)), (917566, (.int 917566 424)), (917567, (.int 917567 425)), (917568, (.int 917568 426)), (917569, (.int 917569 427)), (917570, (.int 917570 428)), (917571, (.int 917571 429)), (917572, (.int 917572 430)), (917573, (.int 917573 431)), (917574, (.int 917574 432)), (917575, (.int 917575 433)), (917576, (.int 917576 434)), (917577, (.int 917577 435)), (917578, (.int 917578 436)), (917579, (.int 917579 437)), (917580, (.int 917580 438)), (917581, (.int 917581 439)), (917582, (.int 917582 440)), (917583, (.int 917583 441)), (917584, (.int 917584 442))] 52 { mask := 127, place := #[1, 32, 33, 34, 35, 36, 37, 38, 39, 40, 41, 42, 43, 44, 45, 46, 47, 48, 49, 50, 51, 52, 53, 54, 55, 56, 57, 58, 59, 60, 61, 62, 63, 64, 65, 66, 67, 68, 69, 70, 71, 72, 73, 74, 75, 76, 77, 78, 79, 80], dummies := #[], finger := 0, led := !P.followText "set-order", moves := 2, plain := true }, slots := #[] }
noncomputable def x157v50 (P : Params) : Obj := { cls := (.type "list_iterator"), dict := none, data := .fields #[(.ref 155), (.int 50 0)], slots := #[] }
noncomputable def x156v51 (P : Params) : Obj := { cls := (.type "set"), dict := none, data := .set #[(917505, (.int 917505 388)), (917536, (.int 917536 394)), (917537, (.int 917537 395)), (917538, (.int 917538 396)), (917539, (.int 917539 397)), (917540, (.int 917540 398)), (917541, (.int 917541 399)), (917542, (.int 917542 400)), (917543, (.int 917543 401)), (917544, (.int 917544 402)), (917545, (.int 917545 403)), (917546, (.int 917546 404)), (917547, (.int 917547 405)), (917548, (.int 917548 406)), (917549, (.int 917549 407)), (917550, (.int 917550 408)), (917551, (.int 917551 409)), (917552, (.int 917552 410)), (917553, (.int 917553 411)), (917554, (.int 917554 412)), (917555, (.int 917555 413)), (917556, (.int 917556 414)), (917557, (.int 917557 415)), (917558, (.int 917558 416)), (917559, (.int 917559 417)), (917560, (.int 917560 418)), (917561, (.int 917561 419)), (917562, (.int 917562 420)), (917563, (.int 917563 421)), (917564, (.int 917564 422)), (917565, (.int 917565 423)), (917566, (.int 917566 424)), (917567, (.int 917567 425)), (917568, (.int 917568 426)), (917569, (.int 917569 427)), (917570, (.int 917570 428)), (917571, (.int 917571 429)), (917572, (.int 917572 430)), (917573, (.int 917573 431)), (917574, (.int 917574 432)), (917575, (.int 917575 433)), (917576, (.int 917576 434)), (917577, (.int 917577 435)), (917578, (.int 917578 436)), (917579, (.int 917579 437)), (917580, (.int 917580 438)), (917581, (.int 917581 439)), (917582, (.int 917582 440)), (917583, (.int 917583 441)), (917584, (.int 917584 442)), (917585, (.int 917585 443))] 53 { mask := 127, place := #[1, 32, 33, 34, 35, 36, 37, 38, 39, 40, 41, 42, 43, 44, 45, 46, 47, 48, 49, 50, 51, 52, 53, 54, 55, 56, 57, 58, 59, 60, 61, 62, 63, 64, 65, 66, 67, 68, 69, 70, 71, 72, 73, 74, 75, 76, 77, 78, 79, 80, 81], dummies := #[], finger := 0, led := !P.followText "set-order", moves := 2, plain := true }, slots := #[] }
noncomputable def x157v51 (P : Params) : Obj := { cls := (.type "list_iterator"), dict := none, data := .fields #[(.ref 155), (.int 51 0)], slots := #[] }
noncomputable def x156v52 (P : Params) : Obj := { cls := (.type "set"), dict := none, data := .set #[(917505, (.int 917505 388)), (917536, (.int 917536 394)), (917537, (.int 917537 395)), (917538, (.int 917538 396)), (917539, (.int 917539 397)), (917540, (.int 917540 398)), (917541, (.int 917541 399)), (917542, (.int 917542 400)), (917543, (.int 917543 401)), (917544, (.int 917544 402)), (917545, (.int 917545 403)), (917546, (.int 917546 404)), (917547, (.int 917547 405)), (917548, (.int 917548 406)), (917549, (.int 917549 407)), (917550, (.int 917550 408)), (917551, (.int 917551 409)), (917552, (.int 917552 410)), (917553, (.int 917553 411)), (917554, (.int 917554 412)), (917555, (.int 917555 413)), (917556, (.int 917556 414)), (917557, (.int 917557 415)), (917558, (.int 917558 416)), (917559, (.int 917559 417)), (917560, (.int 917560 418)), (917561, (.int 917561 419)), (917562, (.int 917562 420)), (917563, (.int 917563 421)), (917564, (.int 917564 422)), (917565, (.int 917565 423)), (917566, (.int 917566 424)), (917567, (.int 917567 425)), (917568, (.int 917568 426)), (917569, (.int 917569 427)), (917570, (.int 917570 428)), (917571, (.int 917571 429)), (917572, (.int 917572 430)), (917573, (.int 917573 431)), (917574, (.int 917574 432)), (917575, (.int 917575 433)), (917576, (.int 917576 434)), (917577, (.int 917577 435)), (917578, (.int 917578 436)), (917579, (.int 917579 437)), (917580, (.int 917580 438)), (917581, (.int 917581 439)), (917582, (.int 917582 440)), (917583, (.int 917583 441)), (917584, (.int 917584 442)), (917585, (.int 917585 443)), (917586, (.int 917586 444))] 54 { mask := 127, place := #[1, 32, 33, 34, 35, 36, 37, 38, 39, 40, 41, 42, 43, 44, 45, 46, 47, 48, 49, 50, 51, 52, 53, 54, 55, 56, 57, 58, 59, 60, 61, 62, 63, 64, 65, 66, 67, 68, 69, 70, 71, 72, 73, 74, 75, 76, 77, 78, 79, 80, 81, 82], dummies := #[], finger := 0, led := !P.followText "set-order", moves := 2, plain := true }, slots := #[] }
noncomputable def x157v52 (P : Params) : Obj := { cls := (.type "list_iterator"), dict := none, data := .fields #[(.ref 155), (.int 52 0)], slots := #[] }
noncomputable def x156v53 (P : Params) : Obj := { cls := (.type "set"), dict := none, data := .set #[(917505, (.int 917505 388)), (917536, (.int 917536 394)), (917537, (.int 917537 395)), (917538, (.int 917538 396)), (917539, (.int 917539 397)), (917540, (.int 917540 398)), (917541, (.int 917541 399)), (917542, (.int 917542 400)), (917543, (.int 917543 401)), (917544, (.int 917544 402)), (917545, (.int 917545 403)), (917546, (.int 917546 404)), (917547, (.int 917547 405)), (917548, (.int 917548 406)), (917549, (.int 917549 407)), (917550, (.int 917550 408)), (917551, (.int 917551 409)), (917552, (.int 917552 410)), (917553, (.int 917553 411)), (917554, (.int 917554 412)), (917555, (.int 917555 413)), (917556, (.int 917556 414)), (917557, (.int 917557 415)), (917558, (.int 917558 416)), (917559, (.int 917559 417)), (917560, (.int 917560 418)), (917561, (.int 917561 419)), (917562, (.int 917562 420)), (917563, (.int 917563 421)), (917564, (.int 917564 422)), (917565, (.int 917565 423)), (917566, (.int 917566 424)), (917567, (.int 917567 425)), (917568, (.int 917568 426)), (917569, (.int 917569 427)), (917570, (.int 917570 428)), (917571, (.int 917571 429)), (917572, (.int 917572 430)), (917573, (.int 917573 431)), (917574, (.int 917574 432)), (917575, (.int 917575 433)), (917576, (.int 917576 434)), (917577, (.int 917577 435)), (917578, (.int 917578 436)), (917579, (.int 917579 437)), (917580, (.int 917580 438)), (917581, (.int 917581 439)), (917582, (.int 917582 440)), (917583, (.int 917583 441)), (917584, (.int 917584 442)), (917585, (.int 917585 443)), (917586, (.int 917586 444)), (917587, (.int 917587 445))] 55 { mask := 127, place := #[1, 32, 33, 34, 35, 36, 37, 38, 39, 40, 41, 42, 43, 44, 45, 46, 47, 48, 49, 50, 51, 52, 53, 54, 55, 56, 57, 58, 59, 60, 61, 62, 63, 64, 65, 66, 67, 68, 69, 70, 71, 72, 73, 74, 75, 76, 77, 78, 79, 80, 81, 82, 83], dummies := #[], finger := 0, led := !P.followText "set-order", moves := 2, plain := true }, slots := #[] }
noncomputable def x157v53 (P : Params) : Obj := { cls := (.type "list_iterator"), dict := none, data := .fields #[(.ref 155), (.int 53 0)], slots := #[] }
noncomputable def x156v54 (P : Params) : Obj := { cls := (.type "set"), dict := none, data := .set #[(917505, (.int 917505 388)), (917536, (.int 917536 394)), (917537, (.int 917537 395)), (917538, (.int 917538 396)), (917539, (.int 917539 397)), (917540, (.int 917540 398)), (917541, (.int 917541 399)), (917542, (.int 917542 400)), (917543, (.int 917543 401)), (917544, (.int 917544 402)), (917545, (.int 917545 403)), (917546, (.int 917546 404)), (917547, (.int 917547 405)), (917548, (.int 917548 406)), (917549, (.int 917549 407)), (917550, (.int 917550 408)), (917551, (.int 917551 409)), (917552, (.int 917552 410)), (917553, (.int 917553 411)), (917554, (.int 917554 412)), (917555, (.int 917555 413)), (917556, (.int 917556 414)), (917557, (.int 917557 415)), (917558, (.int 917558 416)), (917559, (.int 917559 417)), (917560, (.int 917560 418)), (917561, (.int 917561 419)), (917562, (.int 917562 420)), (917563, (.int 917563 421)), (917564, (.int 917564 422)), (917565, (.int 917565 423)), (917566, (.int 917566 424)), (917567, (.int 917567 425)), (917568, (.int 917568 426)), (917569, (.int 917569 427)), (917570, (.int 917570 428)), (917571, (.int 917571 429)), (917572, (.int 917572 430)), (917573, (.int 917573 431)), (917574, (.int 917574 432)), (917575, (.int 917575 433)), (917576, (.int 917576 434)), (917577, (.int 917577 435)), (917578, (.int 917578 436)), (917579, (.int 917579 437)), (917580, (.int 917580 438)), (917581, (.int 917581 439)), (917582, (.int 917582 440)), (917583, (.int 917583 441)), (917584, (.int 917584 442)), (917585, (.int 917585 443)), (917586, (.int 917586 444)), (917587, (.int 917587 445)), (917588, (.int 917588 446))] 56 { mask := 127, place := #[1, 32, 33, 34, 35, 36, 37, 38, 39, 40, 41, 42, 43, 44, 45, 46, 47, 48, 49, 50, 51, 52, 53, 54, 55, 56, 57, 58, 59, 60, 61, 62, 63, 64, 65, 66, 67, 68, 69, 70, 71, 72, 73, 74, 75, 76, 77, 78, 79, 80, 81, 82, 83, 84], dummies := #[], finger := 0, led := !P.followText "set-order", moves := 2, plain := true }, slots := #[] }
noncomputable def x157v54 (P : Params) : Obj := { cls := (.type "list_iterator"), dict := none, data := .fields #[(.ref 155), (.int 54 0)], slots := #[] }
noncomputable def x156v55 (P : Params) : Obj := { cls := (.type "set"), dict := none, data := .set #[(917505, (.int 917505 388)), (917536, (.int 917536 394)), (917537, (.int 917537 395)), (917538, (.int 917538 396)), (917539, (.int 917539 397)), (917540, (.int 917540 398)), (917541, (.int 917541 399)), (917542, (.int 917542 400)), (917543, (.int 917543 401)), (917544, (.int 917544 402)), (917545, (.int 917545 403)), (917546, (.int 917546 404)), (917547, (.int 917547 405)), (917548, (.int 917548 406)), (917549, (.int 917549 407)), (917550, (.int 917550 408)), (917551, (.int 917551 409)), (917552, (.int 917552 410)), (917553, (.int 917553 411)), (917554, (.int 917554 412)), (917555, (.int 917555 413)), (917556, (.int 917556 414)), (917557, (.int 917557 415)), (917558, (.int 917558 416)), (917559, (.int 917559 417)), (917560, (.int 917560 418)), (917561, (.int 917561 419)), (917562, (.int 917562 420)), (917563, (.int 917563 421)), (917564, (.int 917564 422)), (917565, (.int 917565 423)), (917566, (.int 917566 424)), (917567, (.int 917567 425)), (917568, (.int 917568 426)), (917569, (.int 917569 427)), (917570, (.int 917570 428)), (917571, (.int 917571 429)), (917572, (.int 917572 430)), (917573, (.int 917573 431)), (917574, (.int 917574 432)), (917575, (.int 917575 433)), (917576, (.int 917576 434)), (917577, (.int 917577 435)), (917578, (.int 917578 436)), (917579, (.int 917579 437)), (917580, (.int 917580 438)), (917581, (.int 917581 439)), (917582, (.int 917582 440)), (917583, (.int 917583 441)), (917584, (.int 917584 442)), (917585, (.int 917585 443)), (917586, (.int 917586 444)), (917587, (.int 917587 445)), (917588, (.int 917588 446)), (917589, (.int 917589 447))] 57 { mask := 127, place := #[1, 32, 33, 34, 35, 36, 37, 38, 39, 40, 41, 42, 43, 44, 45, 46, 47, 48, 49, 50, 51, 52, 53, 54, 55, 56, 57, 58, 59, 60, 61, 62, 63, 64, 65, 66, 67, 68, 69, 70, 71, 72, 73, 74, 75, 76, 77, 78, 79, 80, 81, 82, 83, 84, 85], dummies := #[], finger := 0, led := !P.followText "set-order", moves := 2, plain := true }, slots := #[] }
noncomputable def x157v55 (P : Params) : Obj := { cls := (.type "list_iterator"), dict := none, data := .fields #[(.ref 155), (.int 55 0)], slots := #[] }
noncomputable def x156v56 (P : Params) : Obj := { cls := (.type "set"), dict := none, data := .set #[(917505, (.int 917505 388)), (917536, (.int 917536 394)), (917537, (.int 917537 395)), (917538, (.int 917538 396)), (917539, (.int 917539 397)), (917540, (.int 917540 398)), (917541, (.int 917541 399)), (917542, (.int 917542 400)), (917543, (.int 917543 401)), (917544, (.int 917544 402)), (917545, (.int 917545 403)), (917546, (.int 917546 404)), (917547, (.int 917547 405)), (917548, (.int 917548 406)), (917549, (.int 917549 407)), (917550, (.int 917550 408)), (917551, (.int 917551 409)), (917552, (.int 917552 410)), (917553, (.int 917553 411)), (917554, (.int 917554 412)), (917555, (.int 917555 413)), (917556, (.int 917556 414)), (917557, (.int 917557 415)), (917558, (.int 917558 416)), (917559, (.int 917559 417)), (917560, (.int 917560 418)), (917561, (.int 917561 419)), (917562, (.int 917562 420)), (917563, (.int 917563 421)), (917564, (.int 917564 422)), (917565, (.int 917565 423)), (917566, (.int 917566 424)), (917567, (.int 917567 425)), (917568, (.int 917568 426)), (917569, (.int 917569 427)), (917570, (.int 917570 428)), (917571, (.int 917571 429)), (917572, (.int 917572 430)), (917573, (.int 917573 431)), (917574, (.int 917574 432)), (917575, (.int 917575 433)), (917576, (.int 917576 434)), (917577, (.int 917577 435)), (917578, (.int 917578 436)), (917579, (.int 917579 437)), (917580, (.int 917580 438)), (917581, (.int 917581 439)), (917582, (.int 917582 440)), (917583, (.int 917583 441)), (917584, (.int 917584 442)), (917585, (.int 917585 443)), (917586, (.int 917586 444)), (917587, (.int 917587 445)), (917588, (.int 917588 446)), (917589, (.int 917589 447)), (917590, (.int 917590 448))] 58 { mask := 127, place := #[1, 32, 33, 34, 35, 36, 37, 38, 39, 40, 41, 42, 43, 44, 45, 46, 47, 48, 49, 50, 51, 52, 53, 54, 55, 56, 57, 58, 59, 60, 61, 62, 63, 64, 65, 66, 67, 68, 69, 70, 71, 72, 73, 74, 75, 76, 77, 78, 79, 80, 81, 82, 83, 84, 85, 86], dummies := #[], finger := 0, led := !P.followText "set-order", moves := 2, plain := true }, slots := #[] }
noncomputable def x157v56 (P : Params) : Obj := { cls := (.type "list_iterator"), dict := none, data := .fields #[(.ref 155), (.int 56 0)], slots := #[] }
noncomputable def x156v57 (P : Params) : Obj := { cls := (.type "set"), dict := none, data := .set #[(917505, (.int 917505 388)), (917536, (.int 917536 394)), (917537, (.int 917537 395)), (917538, (.int 917538 396)), (917539, (.int 917539 397)), (917540, (.int 917540 398)), (917541, (.int 917541 399)), (917542, (.int 917542 400)), (917543, (.int 917543 401)), (917544, (.int 917544 402)), (917545, (.int 917545 403)), (917546, (.int 917546 404)), (917547, (.int 917547 405)), (917548, (.int 917548 406)), (917549, (.int 917549 407)), (917550, (.int 917550 408)), (917551, (.int 917551 409)), (917552, (.int 917552 410)), (917553, (.int 917553 411)), (917554, (.int 917554 412)), (917555, (.int 917555 413)), (917556, (.int 917556 414)), (917557, (.int 917557 415)), (917558, (.int 917558 416)), (917559, (.int 917559 417)), (917560, (.int 917560 418)), (917561, (.int 917561 419)), (917562, (.int 917562 420)), (917563, (.int 917563 421)), (917564, (.int 917564 422)), (917565, (.int 917565 423)), (917566, (.int 917566 424)), (917567, (.int 917567 425)), (917568, (.int 917568 426)), (917569, (.int 917569 427)), (917570, (.int 917570 428)), (917571, (.int 917571 429)), (917572, (.int 917572 430)), (917573, (.int 917573 431)), (917574, (.int 917574 432)), (917575, (.int 917575 433)), (917576, (.int 917576 434)), (917577, (.int 917577 435)), (917578, (.int 917578 436)), (917579, (.int 917579 437)), (917580, (.int 917580 438)), (917581, (.int 917581 439)), (917582, (.int 917582 440)), (917583, (.int 917583 441)), (917584, (.int 917584 442)), (917585, (.int 917585 443)), (917586, (.int 917586 444)), (917587, (.int 917587 445)), (917588, (.int 917588 446)), (917589, (.int 917589 447)), (917590, (.int 917590 448)), (917591, (.int 917591 449))] 59 { mask := 127, place := #[1, 32, 33, 34, 35, 36, 37, 38, 39, 40, 41, 42, 43, 44, 45, 46, 47, 48, 49, 50, 51, 52, 53, 54, 55, 56, 57, 58, 59, 60, 61, 62, 63, 64, 65, 66, 67, 68, 69, 70, 71, 72, 73, 74, 75, 76, 77, 78, 79, 80, 81, 82, 83, 84, 85, 86, 87], dummies := #[], finger := 0, led := !P.followText "set-order", moves := 2, plain := true }, slots := #[] }
noncomputable def x157v57 (P : Params) : Obj := { cls := (.type "list_iterator"), dict := none, data := .fields #[(.ref 155), (.int 57 0)], slots := #[] }
noncomputable def x156v58 (P : Params) : Obj := { cls := (.type "set"), dict := none, data := .set #[(917505, (.int 917505 388)), (917536, (.int 917536 394)), (917537, (.int 917537 395)), (917538, (.int 917538 396)), (917539, (.int 917539 397)), (917540, (.int 917540 398)), (917541, (.int 917541 399)), (917542, (.int 917542 400)), (917543, (.int 917543 401)), (917544, (.int 917544 402)), (917545, (.int 917545 403)), (917546, (.int 917546 404)), (917547, (.int 917547 405)), (917548, (.int 917548 406)), (917549, (.int 917549 407)), (917550, (.int 917550 408)), (917551, (.int 917551 409)), (917552, (.int 917552 410)), (917553, (.int 917553 411)), (917554, (.int 917554 412)), (917555, (.int 917555 413)), (917556, (.int 917556 414)), (917557, (.int 917557 415)), (917558, (.int 917558 416)), (917559, (.int 917559 417)), (917560, (.int 917560 418)), (917561, (.int 917561 419)), (917562, (.int 917562 420)), (917563, (.int 917563 421)), (917564, (.int 917564 422)), (917565, (.int 917565 423)), (917566, (.int 917566 424)), (917567, (.int 917567 425)), (917568, (.int 917568 426)), (917569, (.int 917569 427)), (917570, (.int 917570 428)), (917571, (.int 917571 429)), (917572, (.int 917572 430)), (917573, (.int 917573 431)), (917574, (.int 917574 432)), (917575, (.int 917575 433)), (917576, (.int 917576 434)), (917577, (.int 917577 435)), (917578, (.int 917578 436)), (917579, (.int 917579 437)), (917580, (.int 917580 438)), (917581, (.int 917581 439)), (917582, (.int 917582 440)), (917583, (.int 917583 441)), (917584, (.int 917584 442)), (917585, (.int 917585 443)), (917586, (.int 917586 444)), (917587, (.int 917587 445)), (917588, (.int 917588 446)), (917589, (.int 917589 447)), (917590, (.int 917590 448)), (917591, (.int 917591 449)), (917592, (.int 917592 450))] 60 { mask := 127, place := #[1, 32, 33, 34, 35, 36, 37, 38, 39, 40, 41, 42, 43, 44, 45, 46, 47, 48, 49, 50, 51, 52, 53, 54, 55, 56, 57, 58, 59, 60, 61, 62, 63, 64, 65, 66, 67, 68, 69, 70, 71, 72, 73, 74, 75, 76, 77, 78, 79, 80, 81, 82, 83, 84, 85, 86, 87, 88], dummies := #[], finger := 0, led := !P.followText "set-order", moves := 2, plain := true }, slots := #[] }
noncomputable def x157v58 (P : Params) : Obj := { cls := (.type "list_iterator"), dict := none, data := .fields #[(.ref 155), (.int 58 0)], slots := #[] }
noncomputable def x156v59 (P : Params) : Obj := { cls := (.type "set"), dict := none, data := .set #[(917505, (.int 917505 388)), (917536, (.int 917536 394)), (917537, (.int 917537 395)), (917538, (.int 917538 396)), (917539, (.int 917539 397)), (917540, (.int 917540 398)), (917541, (.int 917541 399)), (917542, (.int 917542 400)), (917543, (.int 917543 401)), (917544, (.int 917544 402)), (917545, (.int 917545 403)), (917546, (.int 917546 404)), (917547, (.int 917547 405)), (917548, (.int 917548 406)), (917549, (.int 917549 407)), (917550, (.int 917550 408)), (917551, (.int 917551 409)), (917552, (.int 917552 410)), (917553, (.int 917553 411)), (917554, (.int 917554 412)), (917555, (.int 917555 413)), (917556, (.int 917556 414)), (917557, (.int 917557 415)), (917558, (.int 917558 416)), (917559, (.int 917559 417)), (917560, (.int 917560 418)), (917561, (.int 917561 419)), (917562, (.int 917562 420)), (917563, (.int 917563 421)), (917564, (.int 917564 422)), (917565, (.int 917565 423)), (917566, (.int 917566 424)), (917567, (.int 917567 425)), (917568, (.int 917568 426)), (917569, (.int 917569 427)), (917570, (.int 917570 428)), (917571, (.int 917571 429)), (917572, (.int 917572 430)), (917573, (.int 917573 431)), (917574, (.int 917574 432)), (917575, (.int 917575 433)), (917576, (.int 917576 434)), (917577, (.int 917577 435)), (917578, (.int 917578 436)), (917579, (.int 917579 437)), (917580, (.int 917580 438)), (917581, (.int 917581 439)), (917582, (.int 917582 440)), (917583, (.int 917583 441)), (917584, (.int 917584 442)), (917585, (.int 917585 443)), (917586, (.int 917586 444)), (917587, (.int 917587 445)), (917588, (.int 917588 446)), (917589, (.int 917589 447)), (917590, (.int 917590 448)), (917591, (.int 917591 449)), (917592, (.int 917592 450)), (917593, (.int 917593 451))] 61 { mask := 127, place := #[1, 32, 33, 34, 35, 36, 37, 38, 39, 40, 41, 42, 43, 44, 45, 46, 47, 48, 49, 50, 51, 52, 53, 54, 55, 56, 57, 58, 59, 60, 61, 62, 63, 64, 65, 66, 67, 68, 69, 70, 71, 72, 73, 74, 75, 76, 77, 78, 79, 80, 81, 82, 83, 84, 85, 86, 87, 88, 89], dummies := #[], finger := 0, led := !P.followText "set-order", moves := 2, plain := true }, slots := #[] }
noncomputable def x157v59 (P : Params) : Obj := { cls := (.type "list_iterator"), dict := none, data := .fields #[(.ref 155), (.int 59 0)], slots := #[] }
noncomputable def x156v60 (P : Params) : Obj := { cls := (.type "set"), dict := none, data := .set #[(917505, (.int 917505 388)), (917536, (.int 917536 394)), (917537, (.int 917537 395)), (917538, (.int 917538 396)), (917539, (.int 917539 397)), (917540, (.int 917540 398)), (917541, (.int 917541 399)), (917542, (.int 917542 400)), (917543, (.int 917543 401)), (917544, (.int 917544 402)), (917545, (.int 917545 403)), (917546, (.int 917546 404)), (917547, (.int 917547 405)), (917548, (.int 917548 406)), (917549, (.int 917549 407)), (917550, (.int 917550 408)), (917551, (.int 917551 409)), (917552, (.int 917552 410)), (917553, (.int 917553 411)), (917554, (.int 917554 412)), (917555, (.int 917555 413)), (917556, (.int 917556 414)), (917557, (.int 917557 415)), (917558, (.int 917558 416)), (917559, (.int 917559 417)), (917560, (.int 917560 418)), (917561, (.int 917561 419)), (917562, (.int 917562 420)), (917563, (.int 917563 421)), (917564, (.int 917564 422)), (917565, (.int 917565 423)), (917566, (.int 917566 424)), (917567, (.int 917567 425)), (917568, (.int 917568 426)), (917569, (.int 917569 427)), (917570, (.int 917570 428)), (917571, (.int 917571 429)), (917572, (.int 917572 430)), (917573, (.int 917573 431)), (917574, (.int 917574 432)), (917575, (.int 917575 433)), (917576, (.int 917576 434)), (917577, (.int 917577 435)), (917578, (.int 917578 436)), (917579, (.int 917579 437)), (917580, (.int 917580 438)), (917581, (.int 917581 439)), (917582, (.int 917582 440)), (917583, (.int 917583 441)), (917584, (.int 917584 442)), (917585, (.int 917585 443)), (917586, (.int 917586 444)), (917587, (.int 917587 445)), (917588, (.int 917588 446)), (917589, (.int 917589 447)), (917590, (.int 917590 448)), (917591, (.int 917591 449)), (917592, (.int 917592 450)), (917593, (.int 917593 451)), (917594, (.int 917594 452))] 62 { mask := 127, place := #[1, 32, 33, 34, 35, 36, 37, 38, 39, 40, 41, 42, 43, 44, 45, 46, 47, 48, 49, 50, 51, 52, 53, 54, 55, 56, 57, 58, 59, 60, 61, 62, 63, 64, 65, 66, 67, 68, 69, 70, 71, 72, 73, 74, 75, 76, 77, 78, 79, 80, 81, 82, 83, 84, 85, 86, 87, 88, 89, 90], dummies := #[], finger := 0, led := !P.followText "set-order", moves := 2, plain := true }, slots := #[] }
noncomputable def x157v60 (P : Params) : Obj := { cls := (.type "list_iterator"), dict := none, data := .fields #[(.ref 155), (.int 60 0)], slots := #[] }
noncomputable def x156v61 (P : Params) : Obj := { cls := (.type "set"), dict := none, data := .set #[(917505, (.int 917505 388)), (917536, (.int 917536 394)), (917537, (.int 917537 395)), (917538, (.int 917538 396)), (917539, (.int 917539 397)), (917540, (.int 917540 398)), (917541, (.int 917541 399)), (917542, (.int 917542 400)), (917543, (.int 917543 401)), (917544, (.int 917544 402)), (917545, (.int 917545 403)), (917546, (.int 917546 404)), (917547, (.int 917547 405)), (917548, (.int 917548 406)), (917549, (.int 917549 407)), (917550, (.int 917550 408)), (917551, (.int 917551 409)), (917552, (.int 917552 410)), (917553, (.int 917553 411)), (917554, (.int 917554 412)), (917555, (.int 917555 413)), (917556, (.int 917556 414)), (917557, (.int 917557 415)), (917558, (.int 917558 416)), (917559, (.int 917559 417)), (917560, (.int 917560 418)), (917561, (.int 917561 419)), (917562, (.int 917562 420)), (917563, (.int 917563 421)), (917564, (.int 917564 422)), (917565, (.int 917565 423)), (917566, (.int 917566 424)), (917567, (.int 917567 425)), (917568, (.int 917568 426)), (917569, (.int 917569 427)), (917570, (.int 917570 428)), (917571, (.int 917571 429)), (917572, (.int 917572 430)), (917573, (.int 917573 431)), (917574, (.int 917574 432)), (917575, (.int 917575 433)), (917576, (.int 917576 434)), (917577, (.int 917577 435)), (917578, (.int 917578 436)), (917579, (.int 917579 437)), (917580, (.int 917580 438)), (917581, (.int 917581 439)), (917582, (.int 917582 440)), (917583, (.int 917583 441)), (917584, (.int 917584 442)), (917585, (.int 917585 443)), (917586, (.int 917586 444)), (917587, (.int 917587 445)), (917588, (.int 917588 446)), (917589, (.int 917589 447)), (917590, (.int 917590 448)), (917591, (.int 917591 449)), (917592, (.int 917592 450)), (917593, (.int 917593 451)), (917594, (.int 917594 452)), (917595, (.int 917595 453))] 63 { mask := 127, place := #[1, 32, 33, 34, 35, 36, 37, 38, 39, 40, 41, 42, 43, 44, 45, 46, 47, 48, 49, 50, 51, 52, 53, 54, 55, 56, 57, 58, 59, 60, 61, 62, 63, 64, 65, 66, 67, 68, 69, 70, 71, 72, 73, 74, 75, 76, 77, 78, 79, 80, 81, 82, 83, 84, 85, 86, 87, 88, 89, 90, 91], dummies := #[], finger := 0, led := !P.followText "set-order", moves := 2, plain := true }, slots := #[] }
noncomputable def x157v61 (P : Params) : Obj := { cls := (.type "list_iterator"), dict := none, data := .fields #[(.ref 155), (.int 61 0)], slots := #[] }
noncomputable def x156v62 (P : Params) : Obj := { cls := (.type "set"), dict := none, data := .set #[(917505, (.int 917505 388)), (917536, (.int 917536 394)), (917537, (.int 917537 395)), (917538, (.int 917538 396)), (917539, (.int 917539 397)), (917540, (.int 917540 398)), (917541, (.int 917541 399)), (917542, (.int 917542 400)), (917543, (.int 917543 401)), (917544, (.int 917544 402)), (917545, (.int 917545 403)), (917546, (.int 917546 404)), (917547, (.int 917547 405)), (917548, (.int 917548 406)), (917549, (.int 917549 407)), (917550, (.int 917550 408)), (917551, (.int 917551 409)), (917552, (.int 917552 410)), (917553, (.int 917553 411)), (917554, (.int 917554 412)), (917555, (.int 917555 413)), (917556, (.int 917556 414)), (917557, (.int 917557 415)), (917558, (.int 917558 416)), (917559, (.int 917559 417)), (917560, (.int 917560 418)), (917561, (.int 917561 419)), (917562, (.int 917562 420)), (917563, (.int 917563 421)), (917564, (.int 917564 422)), (917565, (.int 917565 423)), (917566, (.int 917566 424)), (917567, (.int 917567 425)), (917568, (.int 917568 426)), (917569, (.int 917569 427)), (917570, (.int 917570 428)), (917571, (.int 917571 429)), (917572, (.int 917572 430)), (917573, (.int 917573 431)), (917574, (.int 917574 432)), (917575, (.int 917575 433)), (917576, (.int 917576 434)), (917577, (.int 917577 435)), (917578, (.int 917578 436)), (917579, (.int 917579 437)), (917580, (.int 917580 438)), (917581, (.int 917581 439)), (917582, (.int 917582 440)), (917583, (.int 917583 441)), (917584, (.int 917584 442)), (917585, (.int 917585 443)), (917586, (.int 917586 444)), (917587, (.int 917587 445)), (917588, (.int 917588 446)), (917589, (.int 917589 447)), (917590, (.int 917590 448)), (917591, (.int 917591 449)), (917592, (.int 917592 450)), (917593, (.int 917593 451)), (917594, (.int 917594 452)), (917595, (.int 917595 453)), (917596, (.int 917596 454))] 64 { mask := 127, place := #[1, 32, 33, 34, 35, 36, 37, 38, 39, 40, 41, 42, 43, 44, 45, 46, 47, 48, 49, 50, 51, 52, 53, 54, 55, 56, 57, 58, 59, 60, 61, 62, 63, 64, 65, 66, 67, 68, 69, 70, 71, 72, 73, 74, 75, 76, 77, 78, 79, 80, 81, 82, 83, 84, 85, 86, 87, 88, 89, 90, 91, 92], dummies := #[], finger := 0, led := !P.followText "set-order", moves := 2, plain := true }, slots := #[] }
noncomputable def x157v62 (P : Params) : Obj := { cls := (.type "list_iterator"), dict := none, data := .fields #[(.ref 155), (.int 62 0)], slots := #[] }
noncomputable def x156v63 (P : Params) : Obj := { cls := (.type "set"), dict := none, data := .set #[(917505, (.int 917505 388)), (917536, (.int 917536 394)), (917537, (.int 917537 395)), (917538, (.int 917538 396)), (917539, (.int 917539 397)), (917540, (.int 917540 398)), (917541, (.int 917541 399)), (917542, (.int 917542 400)), (917543, (.int 917543 401)), (917544, (.int 917544 402)), (917545, (.int 917545 403)), (917546, (.int 917546 404)), (917547, (.int 917547 405)), (917548, (.int 917548 406)), (917549, (.int 917549 407)), (917550, (.int 917550 408)), (917551, (.int 917551 409)), (917552, (.int 917552 410)), (917553, (.int 917553 411)), (917554, (.int 917554 412)), (917555, (.int 917555 413)), (917556, (.int 917556 414)), (917557, (.int 917557 415)), (917558, (.int 917558 416)), (917559, (.int 917559 417)), (917560, (.int 917560 418)), (917561, (.int 917561 419)), (917562, (.int 917562 420)), (917563, (.int 917563 421)), (917564, (.int 917564 422)), (917565, (.int 917565 423)), (917566, (.int 917566 424)), (917567, (.int 917567 425)), (917568, (.int 917568 426)), (917569, (.int 917569 427)), (917570, (.int 917570 428)), (917571, (.int 917571 429)), (917572, (.int 917572 430)), (917573, (.int 917573 431)), (917574, (.int 917574 432)), (917575, (.int 917575 433)), (917576, (.int 917576 434)), (917577, (.int 917577 435)), (917578, (.int 917578 436)), (917579, (.int 917579 437)), (917580, (.int 917580 438)), (917581, (.int 917581 439)), (917582, (.int 917582 440)), (917583, (.int 917583 441)), (917584, (.int 917584 442)), (917585, (.int 917585 443)), (917586, (.int 917586 444)), (917587, (.int 917587 445)), (917588, (.int 917588 446)), (917589, (.int 917589 447)), (917590, (.int 917590 448)), (917591, (.int 917591 449)), (917592, (.int 917592 450)), (917593, (.int 917593 451)), (917594, (.int 917594 452)), (917595, (.int 917595 453)), (917596, (.int 917596 454)), (917597, (.int 917597 455))] 65 { mask := 127, place := #[1, 32, 33, 34, 35, 36, 37, 38, 39, 40, 41, 42, 43, 44, 45, 46, 47, 48, 49, 50, 51, 52, 53, 54, 55, 56, 57, 58, 59, 60, 61, 62, 63, 64, 65, 66, 67, 68, 69, 70, 71, 72, 73, 74, 75, 76, 77, 78, 79, 80, 81, 82, 83, 84, 85, 86, 87, 88, 89, 90, 91, 92, 93], dummies := #[], finger := 0, led := !P.followText "set-order", moves := 2, plain := true }, slots := #[] }
noncomputable def x157v63 (P : Params) : Obj := { cls := (.type "list_iterator"), dict := none, data := .fields #[(.ref 155), (.int 63 0)], slots := #[] }
noncomputable def x156v64 (P : Params) : Obj := { cls := (.type "set"), dict := none, data := .set #[(917505, (.int 917505 388)), (917536, (.int 917536 394)), (917537, (.int 917537 395)), (917538, (.int 917538 396)), (917539, (.int 917539 397)), (917540, (.int 917540 398)), (917541, (.int 917541 399)), (917542, (.int 917542 400)), (917543, (.int 917543 401)), (917544, (.int 917544 402)), (917545, (.int 917545 403)), (917546, (.int 917546 404)), (917547, (.int 917547 405)), (917548, (.int 917548 406)), (917549, (.int 917549 407)), (917550, (.int 917550 408)), (917551, (.int 917551 409)), (917552, (.int 917552 410)), (917553, (.int 917553 411)), (917554, (.int 917554 412)), (917555, (.int 917555 413)), (917556, (.int 917556 414)), (917557, (.int 917557 415)), (917558, (.int 917558 416)), (917559, (.int 917559 417)), (917560, (.int 917560 418)), (917561, (.int 917561 419)), (917562, (.int 917562 420)), (917563, (.int 917563 421)), (917564, (.int 917564 422)), (917565, (.int 917565 423)), (917566, (.int 917566 424)), (917567, (.int 917567 425)), (917568, (.int 917568 426)), (917569, (.int 917569 427)), (917570, (.int 917570 428)), (917571, (.int 917571 429)), (917572, (.int 917572 430)), (917573, (.int 917573 431)), (917574, (.int 917574 432)), (917575, (.int 917575 433)), (917576, (.int 917576 434)), (917577, (.int 917577 435)), (917578, (.int 917578 436)), (917579, (.int 917579 437)), (917580, (.int 917580 438)), (917581, (.int 917581 439)), (917582, (.int 917582 440)), (917583, (.int 917583 441)), (917584, (.int 917584 442)), (917585, (.int 917585 443)), (917586, (.int 917586 444)), (917587, (.int 917587 445)), (917588, (.int 917588 446)), (917589, (.int 917589 447)), (917590, (.int 917590 448)), (917591, (.int 917591 449)), (917592, (.int 917592 450)), (917593, (.int 917593 451)), (917594, (.int 917594 452)), (917595, (.int 917595 453)), (917596, (.int 917596 454)), (917597, (.int 917597 455)), (917598, (.int 917598 456))] 66 { mask := 127, place := #[1, 32, 33, 34, 35, 36, 37, 38, 39, 40, 41, 42, 43, 44, 45, 46, 47, 48, 49, 50, 51, 52, 53, 54, 55, 56, 57, 58, 59, 60, 61, 62, 63, 64, 65, 66, 67, 68, 69, 70, 71, 72, 73, 74, 75, 76, 77, 78, 79, 80, 81, 82, 83, 84, 85, 86, 87, 88, 89, 90, 91, 92, 93, 94], dummies := #[], finger := 0, led := !P.followText "set-order", moves := 2, plain := true }, slots := #[] }
noncomputable def x157v64 (P : Params) : Obj := { cls := (.type "list_iterator"), dict := none, data := .fields #[(.ref 155), (.int 64 0)], slots := #[] }
noncomputable def x156v65 (P : Params) : Obj := { cls := (.type "set"), dict := none, data := .set #[(917505, (.int 917505 388)), (917536, (.int 917536 394)), (917537, (.int 917537 395)), (917538, (.int 917538 396)), (917539, (.int 917539 397)), (917540, (.int 917540 398)), (917541, (.int 917541 399)), (917542, (.int 917542 400)), (917543, (.int 917543 401)), (917544, (.int 917544 402)), (917545, (.int 917545 403)), (917546, (.int 917546 404)), (917547, (.int 917547 405)), (917548, (.int 917548 406)), (917549, (.int 917549 407)), (917550, (.int 917550 408)), (917551, (.int 917551 409)), (917552, (.int 917552 410)), (917553, (.int 917553 411)), (917554, (.int 917554 412)), (917555, (.int 917555 413)), (917556, (.int 917556 414)), (917557, (.int 917557 415)), (917558, (.int 917558 416)), (917559, (.int 917559 417)), (917560, (.int 917560 418)), (917561, (.int 917561 419)), (917562, (.int 917562 420)), (917563, (.int 917563 421)), (917564, (.int 917564 422)), (917565, (.int 917565 423)), (917566, (.int 917566 424)), (917567, (.int 917567 425)), (917568, (.int 917568 426)), (917569, (.int 917569 427)), (917570, (.int 917570 428)), (917571, (.int 917571 429)), (917572, (.int 917572 430)), (917573, (.int 917573 431)), (917574, (.int 917574 432)), (917575, (.int 917575 433)), (917576, (.int 917576 434)), (917577, (.int 917577 435)), (917578, (.int 917578 436)), (917579, (.int 917579 437)), (917580, (.int 917580 438)), (917581, (.int 917581 439)), (917582, (.int 917582 440)), (917583, (.int 917583 441)), (917584, (.int 917584 442)), (917585, (.int 917585 443)), (917586, (.int 917586 444)), (917587, (.int 917587 445)), (917588, (.int 917588 446)), (917589, (.int 917589 447)), (917590, (.int 917590 448)), (917591, (.int 917591 449)), (917592, (.int 917592 450)), (917593, (.int 917593 451)), (917594, (.int 917594 452)), (917595, (.int 917595 453)), (917596, (.int 917596 454)), (917597, (.int 917597 455)), (917598, (.int 917598 456)), (917599, (.int 917599 457))] 67 { mask := 127, place := #[1, 32, 33, 34, 35, 36, 37, 38, 39, 40, 41, 42, 43, 44, 45, 46, 47, 48, 49, 50, 51, 52, 53, 54, 55, 56, 57, 58, 59, 60, 61, 62, 63, 64, 65, 66, 67, 68, 69, 70, 71, 72, 73, 74, 75, 76, 77, 78, 79, 80, 81, 82, 83, 84, 85, 86, 87, 88, 89, 90, 91, 92, 93, 94, 95], dummies := #[], finger := 0, led := !P.followText "set-order", moves := 2, plain := true }, slots := #[] }
noncomputable def x157v65 (P : Params) : Obj := { cls := (.type "list_iterator"), dict := none, data := .fields #[(.ref 155), (.int 65 0)], slots := #[] }
noncomputable def x156v66 (P : Params) : Obj := { cls := (.type "set"), dict := none, data := .set #[(917505, (.int 917505 388)), (917536, (.int 917536 394)), (917537, (.int 917537 395)), (917538, (.int 917538 396)), (917539, (.int 917539 397)), (917540, (.int 917540 398)), (917541, (.int 917541 399)), (917542, (.int 917542 400)), (917543, (.int 917543 401)), (917544, (.int 917544 402)), (917545, (.int 917545 403)), (917546, (.int 917546 404)), (917547, (.int 917547 405)), (917548, (.int 917548 406)), (917549, (.int 917549 407)), (917550, (.int 917550 408)), (917551, (.int 917551 409)), (917552, (.int 917552 410)), (917553, (.int 917553 411)), (917554, (.int 917554 412)), (917555, (.int 917555 413)), (917556, (.int 917556 414)), (917557, (.int 917557 415)), (917558, (.int 917558 416)), (917559, (.int 917559 417)), (917560, (.int 917560 418)), (917561, (.int 917561 419)), (917562, (.int 917562 420)), (917563, (.int 917563 421)), (917564, (.int 917564 422)), (917565, (.int 917565 423)), (917566, (.int 917566 424)), (917567, (.int 917567 425)), (917568, (.int 917568 426)), (917569, (.int 917569 427)), (917570, (.int 917570 428)), (917571, (.int 917571 429)), (917572, (.int 917572 430)), (917573, (.int 917573 431)), (917574, (.int 917574 432)), (917575, (.int 917575 433)), (917576, (.int 917576 434)), (917577, (.int 917577 435)), (917578, (.int 917578 436)), (917579, (.int 917579 437)), (917580, (.int 917580 438)), (917581, (.int 917581 439)), (917582, (.int 917582 440)), (917583, (.int 917583 441)), (917584, (.int 917584 442)), (917585, (.int 917585 443)), (917586, (.int 917586 444)), (917587, (.int 917587 445)), (917588, (.int 917588 446)), (917589, (.int 917589 447)), (917590, (.int 917590 448)), (917591, (.int 917591 449)), (917592, (.int 917592 450)), (917593, (.int 917593 451)), (917594, (.int 917594 452)), (917595, (.int 917595 453)), (917596, (.int 917596 454)), (917597, (.int 917597 455)), (917598, (.int 917598 456)), (917599, (.int 917599 457)), (917600, (.int 917600 458))] 68 { mask := 127, place := #[1, 32, 33, 34, 35, 36, 37, 38, 39, 40, 41, 42, 43, 44, 45, 46, 47, 48, 49, 50, 51, 52, 53, 54, 55, 56, 57, 58, 59, 60, 61, 62, 63, 64, 65, 66, 67, 68, 69, 70, 71, 72, 73, 74, 75, 76, 77, 78, 79, 80, 81, 82, 83, 84, 85, 86, 87, 88, 89, 90, 91, 92, 93, 94, 95, 96], dummies := #[], finger := 0, led := !P.followText "set-order", moves := 2, plain := true }, slots := #[] }
noncomputable def x157v66 (P : Params) : Obj := { cls := (.type "list_iterator"), dict := none, data := .fields #[(.ref 155), (.int 66 0)], slots := #[] }
noncomputable def x156v67 (P : Params) : Obj := { cls := (.type "set"), dict := none, data := .set #[(917505, (.int 917505 388)), (917536, (.int 917536 394)), (917537, (.int 917537 395)), (917538, (.int 917538 396)), (917539, (.int 917539 397)), (917540, (.int 917540 398)), (917541, (.int 917541 399)), (917542, (.int 917542 400)), (917543, (.int 917543 401)), (917544, (.int 917544 402)), (917545, (.int 917545 403)), (917546, (.int 917546 404)), (917547, (.int 917547 405)), (917548, (.int 917548 406)), (917549, (.int 917549 407)), (917550, (.int 917550 408)), (917551, (.int 917551 409)), (917552, (.int 917552 410)), (917553, (.int 917553 411)), (917554, (.int 917554 412)), (917555, (.int 917555 413)), (917556, (.int 917556 414)), (917557, (.int 917557 415)), (917558, (.int 917558 416)), (917559, (.int 917559 417)), (917560, (.int 917560 418)), (917561, (.int 917561 419)), (917562, (.int 917562 420)), (917563, (.int 917563 421)), (917564, (.int 917564 422)), (917565, (.int 917565 423)), (917566, (.int 917566 424)), (917567, (.int 917567 425)), (917568, (.int 917568 426)), (917569, (.int 917569 427)), (917570, (.int 917570 428)), (917571, (.int 917571 429)), (917572, (.int 917572 430)), (917573, (.int 917573 431)), (917574, (.int 917574 432)), (917575, (.int 917575 433)), (917576, (.int 917576 434)), (917577, (.int 917577 435)), (917578, (.int 917578 436)), (917579, (.int 917579 437)), (917580, (.int 917580 438)), (917581, (.int 917581 439)), (917582, (.int 917582 440)), (917583, (.int 917583 441)), (917584, (.int 917584 442)), (917585, (.int 917585 443)), (917586, (.int 917586 444)), (917587, (.int 917587 445)), (917588, (.int 917588 446)), (917589, (.int 917589 447)), (917590, (.int 917590 448)), (917591, (.int 917591 449)), (917592, (.int 917592 450)), (917593, (.int 917593 451)), (917594, (.int 917594 452)), (917595, (.int 917595 453)), (917596, (.int 917596 454)), (917597, (.int 917597 455)), (917598, (.int 917598 456)), (917599, (.int 917599 457)), (917600, (.int 917600 458)), (917601, (.int 917601 459))] 69 { mask := 127, place := #[1, 32, 33, 34, 35, 36, 37, 38, 39, 40, 41, 42, 43, 44, 45, 46, 47, 48, 49, 50, 51, 52, 53, 54, 55, 56, 57, 58, 59, 60, 61, 62, 63, 64, 65, 66, 67, 68, 69, 70, 71, 72, 73, 74, 75, 76, 77, 78, 79, 80, 81, 82, 83, 84, 85, 86, 87, 88, 89, 90, 91, 92, 93, 94, 95, 96, 97], dummies := #[], finger := 0, led := !P.followText "set-order", moves := 2, plain := true }, slots := #[] }
noncomputable def x157v67 (P : Params) : Obj := { cls := (.type "list_iterator"), dict := none, data := .fields #[(.ref 155), (.int 67 0)], slots := #[] }
noncomputable def x156v68 (P : Params) : Obj := { cls := (.type "set"), dict := none, data := .set #[(917505, (.int 917505 388)), (917536, (.int 917536 394)), (917537, (.int 917537 395)), (917538, (.int 917538 396)), (917539, (.int 917539 397)), (917540, (.int 917540 398)), (917541, (.int 917541 399)), (917542, (.int 917542 400)), (917543, (.int 917543 401)), (917544, (.int 917544 402)), (917545, (.int 917545 403)), (917546, (.int 917546 404)), (917547, (.int 917547 405)), (917548, (.int 917548 406)), (917549, (.int 917549 407)), (917550, (.int 917550 408)), (917551, (.int 917551 409)), (917552, (.int 917552 410)), (917553, (.int 917553 411)), (917554, (.int 917554 412)), (917555, (.int 917555 413)), (917556, (.int 917556 414)), (917557, (.int 917557 415)), (917558, (.int 917558 416)), (917559, (.int 917559 417)), (917560, (.int 917560 418)), (917561, (.int 917561 419)), (917562, (.int 917562 420)), (917563, (.int 917563 421)), (917564, (.int 917564 422)), (917565, (.int 917565 423)), (917566, (.int 917566 424)), (917567, (.int 917567 425)), (917568, (.int 917568 426)), (917569, (.int 917569 427)), (917570, (.int 917570 428)), (917571, (.int 917571 429)), (917572, (.int 917572 430)), (917573, (.int 917573 431)), (917574, (.int 917574 432)), (917575, (.int 917575 433)), (917576, (.int 917576 434)), (917577, (.int 917577 435)), (917578, (.int 917578 436)), (917579, (.int 917579 437)), (917580, (.int 917580 438)), (917581, (.int 917581 439)), (917582, (.int 917582 440)), (917583, (.int 917583 441)), (917584, (.int 917584 442)), (917585, (.int 917585 443)), (917586, (.int 917586 444)), (917587, (.int 917587 445)), (917588, (.int 917588 446)), (917589, (.int 917589 447)), (917590, (.int 917590 448)), (917591, (.int 917591 449)), (917592, (.int 917592 450)), (917593, (.int 917593 451)), (917594, (.int 917594 452)), (917595, (.int 917595 453)), (917596, (.int 917596 454)), (917597, (.int 917597 455)), (917598, (.int 917598 456)), (917599, (.int 917599 457)), (917600, (.int 917600 458)), (917601, (.int 917601 459)), (917602, (.int 917602 460))] 70 { mask := 127, place := #[1, 32, 33, 34, 35, 36, 37, 38, 39, 40, 41, 42, 43, 44, 45, 46, 47, 48, 49, 50, 51, 52, 53, 54, 55, 56, 57, 58, 59, 60, 61, 62, 63, 64, 65, 66, 67, 68, 69, 70, 71, 72, 73, 74, 75, 76, 77, 78, 79, 80, 81, 82, 83, 84, 85, 86, 87, 88, 89, 90, 91, 92, 93, 94, 95, 96, 97, 98], dummies := #[], finger := 0, led := !P.followText "set-order", moves := 2, plain := true }, slots := #[] }
noncomputable def x157v68 (P : Params) : Obj := { cls := (.type "list_iterator"), dict := none, data := .fields #[(.ref 155), (.int 68 0)], slots := #[] }
noncomputable def x156v69 (P : Params) : Obj := { cls := (.type "set"), dict := none, data := .set #[(917505, (.int 917505 388)), (917536, (.int 917536 394)), (917537, (.int 917537 395)), (917538, (.int 917538 396)), (917539, (.int 917539 397)), (917540, (.int 917540 398)), (917541, (.int 917541 399)), (917542, (.int 917542 400)), (917543, (.int 917543 401)), (917544, (.int 917544 402)), (917545, (.int 917545 403)), (917546, (.int 917546 404)), (917547, (.int 917547 405)), (917548, (.int 917548 406)), (917549, (.int 917549 407)), (917550, (.int 917550 408)), (917551, (.int 917551 409)), (917552, (.int 917552 410)), (917553, (.int 917553 411)), (917554, (.int 917554 412)), (917555, (.int 917555 413)), (917556, (.int 917556 414)), (917557, (.int 917557 415)), (917558, (.int 917558 416)), (917559, (.int 917559 417)), (917560, (.int 917560 418)), (917561, (.int 917561 419)), (917562, (.int 917562 420)), (917563, (.int 917563 421)), (917564, (.int 917564 422)), (917565, (.int 917565 423)), (917566, (.int 917566 424)), (917567, (.int 917567 425)), (917568, (.int 917568 426)), (917569, (.int 917569 427)), (917570, (.int 917570 428)), (917571, (.int 917571 429)), (917572, (.int 917572 430)), (917573, (.int 917573 431)), (917574, (.int 917574 432)), (917575, (.int 917575 433)), (917576, (.int 917576 434)), (917577, (.int 917577 435)), (917578, (.int 917578 436)), (917579, (.int 917579 437)), (917580, (.int 917580 438)), (917581, (.int 917581 439)), (917582, (.int 917582 440)), (917583, (.int 917583 441)), (917584, (.int 917584 442)), (917585, (.int 917585 443)), (917586, (.int 917586 444)), (917587, (.int 917587 445)), (917588, (.int 917588 446)), (917589, (.int 917589 447)), (917590, (.int 917590 448)), (917591, (.int 917591 449)), (917592, (.int 917592 450)), (917593, (.int 917593 451)), (917594, (.int 917594 452)), (917595, (.int 917595 453)), (917596, (.int 917596 454)), (917597, (.int 917597 455)), (917598, (.int 917598 456)), (917599, (.int 917599 457)), (917600, (.int 917600 458)), (917601, (.int 917601 459)), (917602, (.int 917602 460)), (917603, (.int 917603 461))] 71 { mask := 127, place := #[1, 32, 33, 34, 35, 36, 37, 38, 39, 40, 41, 42, 43, 44, 45, 46, 47, 48, 49, 50, 51, 52, 53, 54, 55, 56, 57, 58, 59, 60, 61, 62, 63, 64, 65, 66, 67, 68, 69, 70, 71, 72, 73, 74, 75, 76, 77, 78, 79, 80, 81, 82, 83, 84, 85, 86, 87, 88, 89, 90, 91, 92, 93, 94, 95, 96, 97, 98, 99], dummies := #[], finger := 0, led := !P.followText "set-order", moves := 2, plain := true }, slots := #[] }
noncomputable def x157v69 (P : Params) : Obj := { cls := (.type "list_iterator"), dict := none, data := .fields #[(.ref 155), (.int 69 0)], slots := #[] }
noncomputable def x156v70 (P : Params) : Obj := { cls := (.type "set"), dict := none, data := .set #[(917505, (.int 917505 388)), (917536, (.int 917536 394)), (917537, (.int 917537 395)), (917538, (.int 917538 396)), (917539, (.int 917539 397)), (917540, (.int 917540 398)), (917541, (.int 917541 399)), (917542, (.int 917542 400)), (917543, (.int 917543 401)), (917544, (.int 917544 402)), (917545, (.int 917545 403)), (917546, (.int 917546 404)), (917547, (.int 917547 405)), (917548, (.int 917548 406)), (917549, (.int 917549 407)), (917550, (.int 917550 408)), (917551, (.int 917551 409)), (917552, (.int 917552 410)), (917553, (.int 917553 411)), (917554, (.int 917554 412)), (917555, (.int 917555 413)), (917556, (.int 917556 414)), (917557, (.int 917557 415)), (917558, (.int 917558 416)), (917559, (.int 917559 417)), (917560, (.int 917560 418)), (917561, (.int 917561 419)), (917562, (.int 917562 420)), (917563, (.int 917563 421)), (917564, (.int 917564 422)), (917565, (.int 917565 423)), (917566, (.int 917566 424)), (917567, (.int 917567 425)), (917568, (.int 917568 426)), (917569, (.int 917569 427)), (917570, (.int 917570 428)), (917571, (.int 917571 429)), (917572, (.int 917572 430)), (917573, (.int 917573 431)), (917574, (.int 917574 432)), (917575, (.int 917575 433)), (917576, (.int 917576 434)), (917577, (.int 917577 435)), (917578, (.int 917578 436)), (917579, (.int 917579 437)), (917580, (.int 917580 438)), (917581, (.int 917581 439)), (917582, (.int 917582 440)), (917583, (.int 917583 441)), (917584, (.int 917584 442)), (917585, (.int 917585 443)), (917586, (.int 917586 444)), (917587, (.int 917587 445)), (917588, (.int 917588 446)), (917589, (.int 917589 447)), (917590, (.int 917590 448)), (917591, (.int 917591 449)), (917592, (.int 917592 450)), (917593, (.int 917593 451)), (917594, (.int 917594 452)), (917595, (.int 917595 453)), (917596, (.int 917596 454)), (917597, (.int 917597 455)), (917598, (.int 917598 456)), (917599, (.int 917599 457)), (917600, (.int 917600 458)), (917601, (.int 917601 459)), (917602, (.int 917602 460)), (917603, (.int 917603 461)), (917604, (.int 917604 462))] 72 { mask := 127, place := #[1, 32, 33, 34, 35, 36, 37, 38, 39, 40, 41, 42, 43, 44, 45, 46, 47, 48, 49, 50, 51, 52, 53, 54, 55, 56, 57, 58, 59, 60, 61, 62, 63, 64, 65, 66, 67, 68, 69, 70, 71, 72, 73, 74, 75, 76, 77, 78, 79, 80, 81, 82, 83, 84, 85, 86, 87, 88, 89, 90, 91, 92, 93, 94, 95, 96, 97, 98, 99, 100], dummies := #[], finger := 0, led := !P.followText "set-order", moves := 2, plain := true }, slots := #[] }
noncomputable def x157v70 (P : Params) : Obj := { cls := (.type "list_iterator"), dict := none, data := .fields #[(.ref 155), (.int 70 0)], slots := #[] }
noncomputable def x156v71 (P : Params) : Obj := { cls := (.type "set"), dict := none, data := .set #[(917505, (.int 917505 388)), (917536, (.int 917536 394)), (917537, (.int 917537 395)), (917538, (.int 917538 396)), (917539, (.int 917539 397)), (917540, (.int 917540 398)), (917541, (.int 917541 399)), (917542, (.int 917542 400)), (917543, (.int 917543 401)), (917544, (.int 917544 402)), (917545, (.int 917545 403)), (917546, (.int 917546 404)), (917547, (.int 917547 405)), (917548, (.int 917548 406)), (917549, (.int 917549 407)), (917550, (.int 917550 408)), (917551, (.int 917551 409)), (917552, (.int 917552 410)), (917553, (.int 917553 411)), (917554, (.int 917554 412)), (917555, (.int 917555 413)), (917556, (.int 917556 414)), (917557, (.int 917557 415)), (917558, (.int 917558 416)), (917559, (.int 917559 417)), (917560, (.int 917560 418)), (917561, (.int 917561 419)), (917562, (.int 917562 420)), (917563, (.int 917563 421)), (917564, (.int 917564 422)), (917565, (.int 917565 423)), (917566, (.int 917566 424)), (917567, (.int 917567 425)), (917568, (.int 917568 426)), (917569, (.int 917569 427)), (917570, (.int 917570 428)), (917571, (.int 917571 429)), (917572, (.int 917572 430)), (917573, (.int 917573 431)), (917574, (.int 917574 432)), (917575, (.int 917575 433)), (917576, (.int 917576 434)), (917577, (.int 917577 435)), (917578, (.int 917578 436)), (917579, (.int 917579 437)), (917580, (.int 917580 438)), (917581, (.int 917581 439)), (917582, (.int 917582 440)), (917583, (.int 917583 441)), (917584, (.int 917584 442)), (917585, (.int 917585 443)), (917586, (.int 917586 444)), (917587, (.int 917587 445)), (917588, (.int 917588 446)), (917589, (.int 917589 447)), (917590, (.int 917590 448)), (917591, (.int 917591 449)), (917592, (.int 917592 450)), (917593, (.int 917593 451)), (917594, (.int 917594 452)), (917595, (.int 917595 453)), (917596, (.int 917596 454)), (917597, (.int 917597 455)), (917598, (.int 917598 456)), (917599, (.int 917599 457)), (917600, (.int 917600 458)), (917601, (.int 917601 459)), (917602, (.int 917602 460)), (917603, (.int 917603 461)), (917604, (.int 917604 462)), (917605, (.int 917605 463))] 73 { mask := 127, place := #[1, 32, 33, 34, 35, 36, 37, 38, 39, 40, 41, 42, 43, 44, 45, 46, 47, 48, 49, 50, 51, 52, 53, 54, 55, 56, 57, 58, 59, 60, 61, 62, 63, 64, 65, 66, 67, 68, 69, 70, 71, 72, 73, 74, 75, 76, 77, 78, 79, 80, 81, 82, 83, 84, 85, 86, 87, 88, 89, 90, 91, 92, 93, 94, 95, 96, 97, 98, 99, 100, 101], dummies := #[], finger := 0, led := !P.followText "set-order", moves := 2, plain := true }, slots := #[] }
noncomputable def x157v71 (P : Params) : Obj := { cls := (.type "list_iterator"), dict := none, data := .fields #[(.ref 155), (.int 71 0)], slots := #[] }
noncomputable def x156v72 (P : Params) : Obj := { cls := (.type "set"), dict := none, data := .set #[(917505, (.int 917505 388)), (917536, (.int 917536 394)), (917537, (.int 917537 395)), (917538, (.int 917538 396)), (917539, (.int 917539 397)), (917540, (.int 917540 398)), (917541, (.int 917541 399)), (917542, (.int 917542 400)), (917543, (.int 917543 401)), (917544, (.int 917544 402)), (917545, (.int 917545 403)), (917546, (.int 917546 404)), (917547, (.int 917547 405)), (917548, (.int 917548 406)), (917549, (.int 917549 407)), (917550, (.int 917550 408)), (917551, (.int 917551 409)), (917552, (.int 917552 410)), (917553, (.int 917553 411)), (917554, (.int 917554 412)), (917555, (.int 917555 413)), (917556, (.int 917556 414)), (917557, (.int 917557 415)), (917558, (.int 917558 416)), (917559, (.int 917559 417)), (917560, (.int 917560 418)), (917561, (.int 917561 419)), (917562, (.int 917562 420)), (917563, (.int 917563 421)), (917564, (.int 917564 422)), (917565, (.int 917565 423)), (917566, (.int 917566 424)), (917567, (.int 917567 425)), (917568, (.int 917568 426)), (917569, (.int 917569 427)), (917570, (.int 917570 428)), (917571, (.int 917571 429)), (917572, (.int 917572 430)), (917573, (.int 917573 431)), (917574, (.int 917574 432)), (917575, (.int 917575 433)), (917576, (.int 917576 434)), (917577, (.int 917577 435)), (917578, (.int 917578 436)), (917579, (.int 917579 437)), (917580, (.int 917580 438)), (917581, (.int 917581 439)), (917582, (.int 917582 440)), (917583, (.int 917583 441)), (917584, (.int 917584 442)), (917585, (.int 917585 443)), (917586, (.int 917586 444)), (917587, (.int 917587 445)), (917588, (.int 917588 446)), (917589, (.int 917589 447)), (917590, (.int 917590 448)), (917591, (.int 917591 449)), (917592, (.int 917592 450)), (917593, (.int 917593 451)), (917594, (.int 917594 452)), (917595, (.int 917595 453)), (917596, (.int 917596 454)), (917597, (.int 917597 455)), (917598, (.int 917598 456)), (917599, (.int 917599 457)), (917600, (.int 917600 458)), (917601, (.int 917601 459)), (917602, (.int 917602 460)), (917603, (.int 917603 461)), (917604, (.int 917604 462)), (917605, (.int 917605 463)), (917606, (.int 917606 464))] 74 { mask := 127, place := #[1, 32, 33, 34, 35, 36, 37, 38, 39, 40, 41, 42, 43, 44, 45, 46, 47, 48, 49, 50, 51, 52, 53, 54, 55, 56, 57, 58, 59, 60, 61, 62, 63, 64, 65, 66, 67, 68, 69, 70, 71, 72, 73, 74, 75, 76, 77, 78, 79, 80, 81, 82, 83, 84, 85, 86, 87, 88, 89, 90, 91, 92, 93, 94, 95, 96, 97, 98, 99, 100, 101, 102], dummies := #[], finger := 0, led := !P.followText "set-order", moves := 2, plain := true }, slots := #[] }
noncomputable def x157v72 (P : Params) : Obj := { cls := (.type "list_iterator"), dict := none, data := .fields #[(.ref 155), (.int 72 0)], slots := #[] }
noncomputable def x156v73 (P : Params) : Obj := { cls := (.type "set"), dict := none, data := .set #[(917505, (.int 917505 388)), (917536, (.int 917536 394)), (917537, (.int 917537 395)), (917538, (.int 917538 396)), (917539, (.int 917539 397)), (917540, (.int 917540 398)), (917541, (.int 917541 399)), (917542, (.int 917542 400)), (917543, (.int 917543 401)), (917544, (.int 917544 402)), (917545, (.int 917545 403)), (917546, (.int 917546 404)), (917547, (.int 917547 405)), (917548, (.int 917548 406)), (917549, (.int 917549 407)), (917550, (.int 917550 408)), (917551, (.int 917551 409)), (917552, (.int 917552 410)), (917553, (.int 917553 411)), (917554, (.int 917554 412)), (917555, (.int 917555 413)), (917556, (.int 917556 414)), (917557, (.int 917557 415)), (917558, (.int 917558 416)), (917559, (.int 917559 417)), (917560, (.int 917560 418)), (917561, (.int 917561 419)), (917562, (.int 917562 420)), (917563, (.int 917563 421)), (917564, (.int 917564 422)), (917565, (.int 917565 423)), (917566, (.int 917566 424)), (917567, (.int 917567 425)), (917568, (.int 917568 426)), (917569, (.int 917569 427)), (917570, (.int 917570 428)), (917571, (.int 917571 429)), (917572, (.int 917572 430)), (917573, (.int 917573 431)), (917574, (.int 917574 432)), (917575, (.int 917575 433)), (917576, (.int 917576 434)), (917577, (.int 917577 435)), (917578, (.int 917578 436)), (917579, (.int 917579 437)), (917580, (.int 917580 438)), (917581, (.int 917581 439)), (917582, (.int 917582 440)), (917583, (.int 917583 441)), (917584, (.int 917584 442)), (917585, (.int 917585 443)), (917586, (.int 917586 444)), (917587, (.int 917587 445)), (917588, (.int 917588 446)), (917589, (.int 917589 447)), (917590, (.int 917590 448)), (917591, (.int 917591 449)), (917592, (.int 917592 450)), (917593, (.int 917593 451)), (917594, (.int 917594 452)), (917595, (.int 917595 453)), (917596, (.int 917596 454)), (917597, (.int 917597 455)), (917598, (.int 917598 456)), (917599, (.int 917599 457)), (917600, (.int 917600 458)), (917601, (.int 917601 459)), (917602, (.int 917602 460)), (917603, (.int 917603 461)), (917604, (.int 917604 462)), (917605, (.int 917605 463)), (917606, (.int 917606 464)), (917607, (.int 917607 465))] 75 { mask := 127, place := #[1, 32, 33, 34, 35, 36, 37, 38, 39, 40, 41, 42, 43, 44, 45, 46, 47, 48, 49, 50, 51, 52, 53, 54, 55, 56, 57, 58, 59, 60, 61, 62, 63, 64, 65, 66, 67, 68, 69, 70, 71, 72, 73, 74, 75, 76, 77, 78, 79, 80, 81, 82, 83, 84, 85, 86, 87, 88, 89, 90, 91, 92, 93, 94, 95, 96, 97, 98, 99, 100, 101, 102, 103], dummies := #[], finger := 0, led := !P.followText "set-order", moves := 2, plain := true }, slots := #[] }
noncomputable def x157v73 (P : Params) : Obj := { cls := (.type "list_iterator"), dict := none, data := .fields #[(.ref 155), (.int 73 0)], slots := #[] }
noncomputable def x156v74 (P : Params) : Obj := { cls := (.type "set"), dict := none, data := .set #[(917505, (.int 917505 388)), (917536, (.int 917536 394)), (917537, (.int 917537 395)), (917538, (.int 917538 396)), (917539, (.int 917539 397)), (917540, (.int 917540 398)), (917541, (.int 917541 399)), (917542, (.int 917542 400)), (917543, (.int 917543 401)), (917544, (.int 917544 402)), (917545, (.int 917545 403)), (917546, (.int 917546 404)), (917547, (.int 917547 405)), (917548, (.int 917548 406)), (917549, (.int 917549 407)), (917550, (.int 917550 408)), (917551, (.int 917551 409)), (917552, (.int 917552 410)), (917553, (.int 917553 411)), (917554, (.int 917554 412)), (917555, (.int 917555 413)), (917556, (.int 917556 414)), (917557, (.int 917557 415)), (917558, (.int 917558 416)), (917559, (.int 917559 417)), (917560, (.int 917560 418)), (917561, (.int 917561 419)), (917562, (.int 917562 420)), (917563, (.int 917563 421)), (917564, (.int 917564 422)), (917565, (.int 917565 423)), (917566, (.int 917566 424)), (917567, (.int 917567 425)), (917568, (.int 917568 426)), (917569, (.int 917569 427)), (917570, (.int 917570 428)), (917571, (.int 917571 429)), (917572, (.int 917572 430)), (917573, (.int 917573 431)), (917574, (.int 917574 432)), (917575, (.int 917575 433)), (917576, (.int 917576 434)), (917577, (.int 917577 435)), (917578, (.int 917578 436)), (917579, (.int 917579 437)), (917580, (.int 917580 438)), (917581, (.int 917581 439)), (917582, (.int 917582 440)), (917583, (.int 917583 441)), (917584, (.int 917584 442)), (917585, (.int 917585 443)), (917586, (.int 917586 444)), (917587, (.int 917587 445)), (917588, (.int 917588 446)), (917589, (.int 917589 447)), (917590, (.int 917590 448)), (917591, (.int 917591 449)), (917592, (.int 917592 450)), (917593, (.int 917593 451)), (917594, (.int 917594 452)), (917595, (.int 917595 453)), (917596, (.int 917596 454)), (917597, (.int 917597 455)), (917598, (.int 917598 456)), (917599, (.int 917599 457)), (917600, (.int 917600 458)), (917601, (.int 917601 459)), (917602, (.int 917602 460)), (917603, (.int 917603 461)), (917604, (.int 917604 462)), (917605, (.int 917605 463)), (917606, (.int 917606 464)), (917607, (.int 917607 465)), (917608, (.int 917608 466))] 76 { mask := 127, place := #[1, 32, 33, 34, 35, 36, 37, 38, 39, 40, 41, 42, 43, 44, 45, 46, 47, 48, 49, 50, 51, 52, 53, 54, 55, 56, 57, 58, 59, 60, 61, 62, 63, 64, 65, 66, 67, 68, 69, 70, 71, 72, 73, 74, 75, 76, 77, 78, 79, 80, 81, 82, 83, 84, 85, 86, 87, 88, 89, 90, 91, 92, 93, 94, 95, 96, 97, 98, 99, 100, 101, 102, 103, 104], dummies := #[], finger := 0, led := !P.followText "set-order", moves := 2, plain := true }, slots := #[] }
noncomputable def x157v74 (P : Params) : Obj := { cls := (.type "list_iterator"), dict := none, data := .fields #[(.ref 155), (.int 74 0)], slots := #[] }
noncomputable def x156v75 (P : Params) : Obj := { cls := (.type "set"), dict := none, data := .set #[(917505, (.int 917505 388)), (917536, (.int 917536 394)), (917537, (.int 917537 395)), (917538, (.int 917538 396)), (917539, (.int 917539 397)), (917540, (.int 917540 398)), (917541, (.int 917541 399)), (917542, (.int 917542 400)), (917543, (.int 917543 401)), (917544, (.int 917544 402)), (917545, (.int 917545 403)), (917546, (.int 917546 404)), (917547, (.int 917547 405)), (917548, (.int 917548 406)), (917549, (.int 917549 407)), (917550, (.int 917550 408)), (917551, (.int 917551 409)), (917552, (.int 917552 410)), (917553, (.int 917553 411)), (917554, (.int 917554 412)), (917555, (.int 917555 413)), (917556, (.int 917556 414)), (917557, (.int 917557 415)), (917558, (.int 917558 416)), (917559, (.int 917559 417)), (917560, (.int 917560 418)), (917561, (.int 917561 419)), (917562, (.int 917562 420)), (917563, (.int 917563 421)), (917564, (.int 917564 422)), (917565, (.int 917565 423)), (917566, (.int 917566 424)), (917567, (.int 917567 425)), (917568, (.int 917568 426)), (917569, (.int 917569 427)), (917570, (.int 917570 428)), (917571, (.int 917571 429)), (917572, (.int 917572 430)), (917573, (.int 917573 431)), (917574, (.int 917574 432)), (917575, (.int 917575 433)), (917576, (.int 917576 434)), (917577, (.int 917577 435)), (917578, (.int 917578 436)), (917579, (.int 917579 437)), (917580, (.int 917580 438)), (917581, (.int 917581 439)), (917582, (.int 917582 440)), (917583, (.int 917583 441)), (917584, (.int 917584 442)), (917585, (.int 917585 443)), (917586, (.int 917586 444)), (917587, (.int 917587 445)), (917588, (.int 917588 446)), (917589, (.int 917589 447)), (917590, (.int 917590 448)), (917591, (.int 917591 449)), (917592, (.int 917592 450)), (917593, (.int 917593 451)), (917594, (.int 917594 452)), (917595, (.int 917595 453)), (917596, (.int 917596 454)), (917597, (.int 917597 455)), (917598, (.int 917598 456)), (917599, (.int 917599 457)), (917600, (.int 917600 458)), (917601, (.int 917601 459)), (917602, (.int 917602 460)), (917603, (.int 917603 461)), (917604, (.int 917604 462)), (917605, (.int 917605 463)), (917606, (.int 917606 464)), (917607, (.int 917607 465)), (917608, (.int 917608 466)), (917609, (.int 917609 467))] 77 { mask := 127, place := #[1, 32, 33, 34, 35, 36, 37, 38, 39, 40, 41, 42, 43, 44, 45, 46, 47, 48, 49, 50, 51, 52, 53, 54, 55, 56, 57, 58, 59, 60, 61, 62, 63, 64, 65, 66, 67, 68, 69, 70, 71, 72, 73, 74, 75, 76, 77, 78, 79, 80, 81, 82, 83, 84, 85, 86, 87, 88, 89, 90, 91, 92, 93, 94, 95, 96, 97, 98, 99, 100, 101, 102, 103, 104, 105], dummies := #[], finger := 0, led := !P.followText "set-order", moves := 2, plain := true }, slots := #[] }
noncomputable def x157v75 (P : Params) : Obj := { cls := (.type "list_iterator"), dict := none, data := .fields #[(.ref 155), (.int 75 0)], slots := #[] }
noncomputable def x156v76 (P : Params) : Obj := { cls := (.type "set"), dict := none, data := .set #[(917505, (.int 917505 388)), (917536, (.int 917536 394)), (917537, (.int 917537 395)), (917538, (.int 917538 396)), (917539, (.int 917539 397)), (917540, (.int 917540 398)), (917541, (.int 917541 399)), (917542, (.int 917542 400)), (917543, (.int 917543 401)), (917544, (.int 917544 402)), (917545, (.int 917545 403)), (917546, (.int 917546 404)), (917547, (.int 917547 405)), (917548, (.int 917548 406)), (917549, (.int 917549 407)), (917550, (.int 917550 408)), (917551, (.int 917551 409)), (917552, (.int 917552 410)), (917553, (.int 917553 411)), (917554, (.int 917554 412)), (917555, (.int 917555 413)), (917556, (.int 917556 414)), (917557, (.int 917557 415)), (917558, (.int 917558 416)), (917559, (.int 917559 417)), (917560, (.int 917560 418)), (917561, (.int 917561 419)), (917562, (.int 917562 420)), (917563, (.int 917563 421)), (917564, (.int 917564 422)), (917565, (.int 917565 423)), (917566, (.int 917566 424)), (917567, (.int 917567 425)), (917568, (.int 917568 426)), (917569, (.int 917569 427)), (917570, (.int 917570 428)), (917571, (.int 917571 429)), (917572, (.int 917572 430)), (917573, (.int 917573 431)), (917574, (.int 917574 432)), (917575, (.int 917575 433)), (917576, (.int 917576 434)), (917577, (.int 917577 435)), (917578, (.int 917578 436)), (917579, (.int 917579 437)), (917580, (.int 917580 438)), (917581, (.int 917581 439)), (917582, (.int 917582 440)), (917583, (.int 917583 441)), (917584, (.int 917584 442)), (917585, (.int 917585 443)), (917586, (.int 917586 444)), (917587, (.int 917587 445)), (917588, (.int 917588 446)), (917589, (.int 917589 447)), (917590, (.int 917590 448)), (917591, (.int 917591 449)), (917592, (.int 917592 450)), (917593, (.int 917593 451)), (917594, (.int 917594 452)), (917595, (.int 917595 453)), (917596, (.int 917596 454)), (917597, (.int 917597 455)), (917598, (.int 917598 456)), (917599, (.int 917599 457)), (917600, (.int 917600 458)), (917601, (.int 917601 459)), (917602, (.int 917602 460)), (917603, (.int 917603 461)), (917604, (.int 917604 462)), (917605, (.int 917605 463)), (917606, (.int 917606 464)), (917607, (.int 917607 465)), (917608, (.int 917608 466)), (917609, (.int 917609 467)), (917610, (.int 917610 468))] 78 { mask := 127, place := #[1, 32, 33, 34, 35, 36, 37, 38, 39, 40, 41, 42, 43, 44, 45, 46, 47, 48, 49, 50, 51, 52, 53, 54, 55, 56, 57, 58, 59, 60, 61, 62, 63, 64, 65, 66, 67, 68, 69, 70, 71, 72, 73, 74, 75, 76, 77, 78, 79, 80, 81, 82, 83, 84, 85, 86, 87, 88, 89, 90, 91, 92, 93, 94, 95, 96, 97, 98, 99, 100, 101, 102, 103, 104, 105, 106], dummies := #[], finger := 0, led := !P.followText "set-order", moves := 2, plain := true }, slots := #[] }
noncomputable def x157v76 (P : Params) : Obj := { cls := (.type "list_iterator"), dict := none, data := .fields #[(.ref 155), (.int 76 0)], slots := #[] }
noncomputable def x156v77 (P : Params) : Obj := { cls := (.type "set"), dict := none, data := .set #[(917505, (.int 917505 388)), (917536, (.int 917536 394)), (917537, (.int 917537 395)), (917538, (.int 917538 396)), (917539, (.int 917539 397)), (917540, (.int 917540 398)), (917541, (.int 917541 399)), (917542, (.int 917542 400)), (917543, (.int 917543 401)), (917544, (.int 917544 402)), (917545, (.int 917545 403)), (917546, (.int 917546 404)), (917547, (.int 917547 405)), (917548, (.int 917548 406)), (917549, (.int 917549 407)), (917550, (.int 917550 408)), (917551, (.int 917551 409)), (917552, (.int 917552 410)), (917553, (.int 917553 411)), (917554, (.int 917554 412)), (917555, (.int 917555 413)), (917556, (.int 917556 414)), (917557, (.int 917557 415)), (917558, (.int 917558 416)), (917559, (.int 917559 417)), (917560, (.int 917560 418)), (917561, (.int 917561 419)), (917562, (.int 917562 420)), (917563, (.int 917563 421)), (917564, (.int 917564 422)), (917565, (.int 917565 423)), (917566, (.int 917566 424)), (917567, (.int 917567 425)), (917568, (.int 917568 426)), (917569, (.int 917569 427)), (917570, (.int 917570 428)), (917571, (.int 917571 429)), (917572, (.int 917572 430)), (917573, (.int 917573 431)), (917574, (.int 917574 432)), (917575, (.int 917575 433)), (917576, (.int 917576 434)), (917577, (.int 917577 435)), (917578, (.int 917578 436)), (917579, (.int 917579 437)), (917580, (.int 917580 438)), (917581, (.int 917581 439)), (917582, (.int 917582 440)), (917583, (.int 917583 441)), (917584, (.int 917584 442)), (917585, (.int 917585 443)), (917586, (.int 917586 444)), (917587, (.int 917587 445)), (917588, (.int 917588 446)), (917589, (.int 917589 447)), (917590, (.int 917590 448)), (917591, (.int 917591 449)), (917592, (.int 917592 450)), (917593, (.int 917593 451)), (917594, (.int 917594 452)), (917595, (.int 917595 453)), (917596, (.int 917596 454)), (917597, (.int 917597 455)), (917598, (.int 917598 456)), (917599, (.int 917599 457)), (917600, (.int 917600 458)), (917601, (.int 917601 459)), (917602, (.int 917602 460)), (917603, (.int 917603 461)), (917604, (.int 917604 462)), (917605, (.int 917605 463)), (917606, (.int 917606 464)), (917607, (.int 917607 465)), (917608, (.int 917608 466)), (917609, (.int 917609 467)), (917610, (.int 917610 468)), (917611, (.int 917611 469))] 80 { mask := 511, place := #[1, 32, 33, 34, 35, 36, 37, 38, 39, 40, 41, 42, 43, 44, 45, 46, 47, 48, 49, 50, 51, 52, 53, 54, 55, 56, 57, 58, 59, 60, 61, 62, 63, 64, 65, 66, 67, 68, 69, 70, 71, 72, 73, 74, 75, 76, 77, 78, 79, 80, 81, 82, 83, 84, 85, 86, 87, 88, 89, 90, 91, 92, 93, 94, 95, 96, 97, 98, 99, 100, 101, 102, 103, 104, 105, 106, 107], dummies := #[], finger := 0, led := !P.followText "set-order", moves := 3, plain := true }, slots := #[] }
noncomputable def x157v77 (P : Params) : Obj := { cls := (.type "list_iterator"), dict := none, data := .fields #[(.ref 155), (.int 77 0)], slots := #[] }
noncomputable def x156v78 (P : Params) : Obj := { cls := (.type "set"), dict := none, data := .set #[(917505, (.int 917505 388)), (917536, (.int 917536 394)), (917537, (.int 917537 395)), (917538, (.int 917538 396)), (917539, (.int 917539 397)), (917540, (.int 917540 398)), (917541, (.int 917541 399)), (917542, (.int 917542 400)), (917543, (.int 917543 401)), (917544, (.int 917544 402)), (917545, (.int 917545 403)), (917546, (.int 917546 404)), (917547, (.int 917547 405)), (917548, (.int 917548 406)), (917549, (.int 917549 407)), (917550, (.int 917550 408)), (917551, (.int 917551 409)), (917552, (.int 917552 410)), (917553, (.int 917553 411)), (917554, (.int 917554 412)), (917555, (.int 917555 413)), (917556, (.int 917556 414)), (917557, (.int 917557 415)), (917558, (.int 917558 416)), (917559, (.int 917559 417)), (917560, (.int 917560 418)), (917561, (.int 917561 419)), (917562, (.int 917562 420)), (917563, (.int 917563 421)), (917564, (.int 917564 422)), (917565, (.int 917565 423)), (917566, (.int 917566 424)), (917567, (.int 917567 425)), (917568, (.int 917568 426)), (917569, (.int 917569 427)), (917570, (.int 917570 428)), (917571, (.int 917571 429)), (917572, (.int 917572 430)), (917573, (.int 917573 431)), (917574, (.int 917574 432)), (917575, (.int 917575 433)), (917576, (.int 917576 434)), (917577, (.int 917577 435)), (917578, (.int 917578 436)), (917579, (.int 917579 437)), (917580, (.int 917580 438)), (917581, (.int 917581 439)), (917582, (.int 917582 440)), (917583, (.int 917583 441)), (917584, (.int 917584 442)), (917585, (.int 917585 443)), (917586, (.int 917586 444)), (917587, (.int 917587 445)), (917588, (.int 917588 446)), (917589, (.int 917589 447)), (917590, (.int 917590 448)), (917591, (.int 917591 449)), (917592, (.int 917592 450)), (917593, (.int 917593 451)), (917594, (.int 917594 452)), (917595, (.int 917595 453)), (917596, (.int 917596 454)), (917597, (.int 917597 455)), (917598, (.int 917598 456)), (917599, (.int 917599 457)), (917600, (.int 917600 458)), (917601, (.int 917601 459)), (917602, (.int 917602 460)), (917603, (.int 917603 461)), (917604, (.int 917604 462)), (917605, (.int 917605 463)), (917606, (.int 917606 464)), (917607, (.int 917607 465)), (917608, (.int 917608 466)), (917609, (.int 917609 467)), (917610, (.int 917610 468)), (917611, (.int 917611 469)), (917612, (.int 917612 470))] 81 { mask := 511, place := #[1, 32, 33, 34, 35, 36, 37, 38, 39, 40, 41, 42, 43, 44, 45, 46, 47, 48, 49, 50, 51, 52, 53, 54, 55, 56, 57, 58, 59, 60, 61, 62, 63, 64, 65, 66, 67, 68, 69, 70, 71, 72, 73, 74, 75, 76, 77, 78, 79, 80, 81, 82, 83, 84, 85, 86, 87, 88, 89, 90, 91, 92, 93, 94, 95, 96, 97, 98, 99, 100, 101, 102, 103, 104, 105, 106, 107, 108], dummies := #[], finger := 0, led := !P.followText "set-order", moves := 3, plain := true }, slots := #[] }
noncomputable def x157v78 (P : Params) : Obj := { cls := (.type "list_iterator"), dict := none, data := .fields #[(.ref 155), (.int 78 0)], slots := #[] }
noncomputable def x156v79 (P : Params) : Obj := { cls := (.type "set"), dict := none, data := .set #[(917505, (.int 917505 388)), (917536, (.int 917536 394)), (917537, (.int 917537 395)), (917538, (.int 917538 396)), (917539, (.int 917539 397)), (917540, (.int 917540 398)), (917541, (.int 917541 399)), (917542, (.int 917542 400)), (917543, (.int 917543 401)), (917544, (.int 917544 402)), (917545, (.int 917545 403)), (917546, (.int 917546 404)), (917547, (.int 917547 405)), (917548, (.int 917548 406)), (917549, (.int 917549 407)), (917550, (.int 917550 408)), (917551, (.int 917551 409)), (917552, (.int 917552 410)), (917553, (.int 917553 411)), (917554, (.int 917554 412)), (917555, (.int 917555 413)), (917556, (.int 917556 414)), (917557, (.int 917557 415)), (917558, (.int 917558 416)), (917559, (.int 917559 417)), (917560, (.int 917560 418)), (917561, (.int 917561 419)), (917562, (.int 917562 420)), (917563, (.int 917563 421)), (917564, (.int 917564 422)), (917565, (.int 917565 423)), (917566, (.int 917566 424)), (917567, (.int 917567 425)), (917568, (.int 917568 426)), (917569, (.int 917569 427)), (917570, (.int 917570 428)), (917571, (.int 917571 429)), (917572, (.int 917572 430)), (917573, (.int 917573 431)), (917574, (.int 917574 432)), (917575, (.int 917575 433)), (917576, (.int 917576 434)), (917577, (.int 917577 435)), (917578, (.int 917578 436)), (917579, (.int 917579 437)), (917580, (.int 917580 438)), (917581, (.int 917581 439)), (917582, (.int 917582 440)), (917583, (.int 917583 441)), (917584, (.int 917584 442)), (917585, (.int 917585 443)), (917586, (.int 917586 444)), (917587, (.int 917587 445)), (917588, (.int 917588 446)), (917589, (.int 917589 447)), (917590, (.int 917590 448)), (917591, (.int 917591 449)), (917592, (.int 917592 450)), (917593, (.int 917593 451)), (917594, (.int 917594 452)), (917595, (.int 917595 453)), (917596, (.int 917596 454)), (917597, (.int 917597 455)), (917598, (.int 917598 456)), (917599, (.int 917599 457)), (917600, (.int 917600 458)), (917601, (.int 917601 459)), (917602, (.int 917602 460)), (917603, (.int 917603 461)), (917604, (.int 917604 462)), (917605, (.int 917605 463)), (917606, (.int 917606 464)), (917607, (.int 917607 465)), (917608, (.int 917608 466)), (917609, (.int 917609 467)), (917610, (.int 917610 468)), (917611, (.int 917611 469)), (917612, (.int 917612 470)), (917613, (.int 917613 471))] 82 { mask := 511, place := #[1, 32, 33, 34, 35, 36, 37, 38, 39, 40, 41, 42, 43, 44, 45, 46, 47, 48, 49, 50, 51, 52, 53, 54, 55, 56, 57, 58, 59, 60, 61, 62, 63, 64, 65, 66, 67, 68, 69, 70, 71, 72, 73, 74, 75, 76, 77, 78, 79, 80, 81, 82, 83, 84, 85, 86, 87, 88, 89, 90, 91, 92, 93, 94, 95, 96, 97, 98, 99, 100, 101, 102, 103, 104, 105, 106, 107, 108, 109], dummies := #[], finger := 0, led := !P.followText "set-order", moves := 3, plain := true }, slots := #[] }
noncomputable def x157v79 (P : Params) : Obj := { cls := (.type "list_iterator"), dict := none, data := .fields #[(.ref 155), (.int 79 0)], slots := #[] }
noncomputable def x156v80 (P : Params) : Obj := { cls := (.type "set"), dict := none, data := .set #[(917505, (.int 917505 388)), (917536, (.int 917536 394)), (917537, (.int 917537 395)), (917538, (.int 917538 396)), (917539, (.int 917539 397)), (917540, (.int 917540 398)), (917541, (.int 917541 399)), (917542, (.int 917542 400)), (917543, (.int 917543 401)), (917544, (.int 917544 402)), (917545, (.int 917545 403)), (917546, (.int 917546 404)), (917547, (.int 917547 405)), (917548, (.int 917548 406)), (917549, (.int 917549 407)), (917550, (.int 917550 408)), (917551, (.int 917551 409)), (917552, (.int 917552 410)), (917553, (.int 917553 411)), (917554, (.int 917554 412)), (917555, (.int 917555 413)), (917556, (.int 917556 414)), (917557, (.int 917557 415)), (917558, (.int 917558 416)), (917559, (.int 917559 417)), (917560, (.int 917560 418)), (917561, (.int 917561 419)), (917562, (.int 917562 420)), (917563, (.int 917563 421)), (917564, (.int 917564 422)), (917565, (.int 917565 423)), (917566, (.int 917566 424)), (917567, (.int 917567 425)), (917568, (.int 917568 426)), (917569, (.int 917569 427)), (917570, (.int 917570 428)), (917571, (.int 917571 429)), (917572, (.int 917572 430)), (917573, (.int 917573 431)), (917574, (.int 917574 432)), (917575, (.int 917575 433)), (917576, (.int 917576 434)), (917577, (.int 917577 435)), (917578, (.int 917578 436)), (917579, (.int 917579 437)), (917580, (.int 917580 438)), (917581, (.int 917581 439)), (917582, (.int 917582 440)), (917583, (.int 917583 441)), (917584, (.int 917584 442)), (917585, (.int 917585 443)), (917586, (.int 917586 444)), (917587, (.int 917587 445)), (917588, (.int 917588 446)), (917589, (.int 917589 447)), (917590, (.int 917590 448)), (917591, (.int 917591 449)), (917592, (.int 917592 450)), (917593, (.int 917593 451)), (917594, (.int 917594 452)), (917595, (.int 917595 453)), (917596, (.int 917596 454)), (917597, (.int 917597 455)), (917598, (.int 917598 456)), (917599, (.int 917599 457)), (917600, (.int 917600 458)), (917601, (.int 917601 459)), (917602, (.int 917602 460)), (917603, (.int 917603 461)), (917604, (.int 917604 462)), (917605, (.int 917605 463)), (917606, (.int 917606 464)), (917607, (.int 917607 465)), (917608, (.int 917608 466)), (917609, (.int 917609 467)), (917610, (.int 917610 468)), (917611, (.int 917611 469)), (917612, (.int 917612 470)), (917613, (.int 917613 471)), (917614, (.int 917614 472))] 83 { mask := 511, place := #[1, 32, 33, 34, 35, 36, 37, 38, 39, 40, 41, 42, 43, 44, 45, 46, 47, 48, 49, 50, 51, 52, 53, 54, 55, 56, 57, 58, 59, 60, 61, 62, 63, 64, 65, 66, 67, 68, 69, 70, 71, 72, 73, 74, 75, 76, 77, 78, 79, 80, 81, 82, 83, 84, 85, 86, 87, 88, 89, 90, 91, 92, 93, 94, 95, 96, 97, 98, 99, 100, 101, 102, 103, 104, 105, 106, 107, 108, 109, 110], dummies := #[], finger := 0, led := !P.followText "set-order", moves := 3, plain := true }, slots := #[] }
noncomputable def x157v80 (P : Params) : Obj := { cls := (.type "list_iterator"), dict := none, data := .fields #[(.ref 155), (.int 80 0)], slots := #[] }
noncomputable def x156v81 (P : Params) : Obj := { cls := (.type "set"), dict := none, data := .set #[(917505, (.int 917505 388)), (917536, (.int 917536 394)), (917537, (.int 917537 395)), (917538, (.int 917538 396)), (917539, (.int 917539 397)), (917540, (.int 917540 398)), (917541, (.int 917541 399)), (917542, (.int 917542 400)), (917543, (.int 917543 401)), (917544, (.int 917544 402)), (917545, (.int 917545 403)), (917546, (.int 917546 404)), (917547, (.int 917547 405)), (917548, (.int 917548 406)), (917549, (.int 917549 407)), (917550, (.int 917550 408)), (917551, (.int 917551 409)), (917552, (.int 917552 410)), (917553, (.int 917553 411)), (917554, (.int 917554 412)), (917555, (.int 917555 413)), (917556, (.int 917556 414)), (917557, (.int 917557 415)), (917558, (.int 917558 416)), (917559, (.int 917559 417)), (917560, (.int 917560 418)), (917561, (.int 917561 419)), (917562, (.int 917562 420)), (917563, (.int 917563 421)), (917564, (.int 917564 422)), (917565, (.int 917565 423)), (917566, (.int 917566 424)), (917567, (.int 917567 425)), (917568, (.int 917568 426)), (917569, (.int 917569 427)), (917570, (.int 917570 428)), (917571, (.int 917571 429)), (917572, (.int 917572 430)), (917573, (.int 917573 431)), (917574, (.int 917574 432)), (917575, (.int 917575 433)), (917576, (.int 917576 434)), (917577, (.int 917577 435)), (917578, (.int 917578 436)), (917579, (.int 917579 437)), (917580, (.int 917580 438)), (917581, (.int 917581 439)), (917582, (.int 917582 440)), (917583, (.int 917583 441)), (917584, (.int 917584 442)), (917585, (.int 917585 443)), (917586, (.int 917586 444)), (917587, (.int 917587 445)), (917588, (.int 917588 446)), (917589, (.int 917589 447)), (917590, (.int 917590 448)), (917591, (.int 917591 449)), (917592, (.int 917592 450)), (917593, (.int 917593 451)), (917594, (.int 917594 452)), (917595, (.int 917595 453)), (917596, (.int 917596 454)), (917597, (.int 917597 455)), (917598, (.int 917598 456)), (917599, (.int 917599 457)), (917600, (.int 917600 458)), (917601, (.int 917601 459)), (917602, (.int 917602 460)), (917603, (.int 917603 461)), (917604, (.int 917604 462)), (917605, (.int 917605 463)), (917606, (.int 917606 464)), (917607, (.int 917607 465)), (917608, (.int 917608 466)), (917609, (.int 917609 467)), (917610, (.int 917610 468)), (917611, (.int 917611 469)), (917612, (.int 917612 470)), (917613, (.int 917613 471)), (917614, (.int 917614 472)), (917615, (.int 917615 473))] 84 { mask := 511, place := #[1, 32, 33, 34, 35, 36, 37, 38, 39, 40, 41, 42, 43, 44, 45, 46, 47, 48, 49, 50, 51, 52, 53, 54, 55, 56, 57, 58, 59, 60, 61, 62, 63, 64, 65, 66, 67, 68, 69, 70, 71, 72, 73, 74, 75, 76, 77, 78, 79, 80, 81, 82, 83, 84, 85, 86, 87, 88, 89, 90, 91, 92, 93, 94, 95, 96, 97, 98, 99, 100, 101, 102, 103, 104, 105, 106, 107, 108, 109, 110, 111], dummies := #[], finger := 0, led := !P.followText "set-order", moves := 3, plain := true }, slots := #[] }
noncomputable def x157v81 (P : Params) : Obj := { cls := (.type "list_iterator"), dict := none, data := .fields #[(.ref 155), (.int 81 0)], slots := #[] }
noncomputable def x156v82 (P : Params) : Obj := { cls := (.type "set"), dict := none, data := .set #[(917505, (.int 917505 388)), (917536, (.int 917536 394)), (917537, (.int 917537 395)), (917538, (.int 917538 396)), (917539, (.int 917539 397)), (917540, (.int 917540 398)), (917541, (.int 917541 399)), (917542, (.int 917542 400)), (917543, (.int 917543 401)), (917544, (.int 917544 402)), (917545, (.int 917545 403)), (917546, (.int 917546 404)), (917547, (.int 917547 405)), (917548, (.int 917548 406)), (917549, (.int 917549 407)), (917550, (.int 917550 408)), (917551, (.int 917551 409)), (917552, (.int 917552 410)), (917553, (.int 917553 411)), (917554, (.int 917554 412)), (917555, (.int 917555 413)), (917556, (.int 917556 414)), (917557, (.int 917557 415)), (917558, (.int 917558 416)), (917559, (.int 917559 417)), (917560, (.int 917560 418)), (917561, (.int 917561 419)), (917562, (.int 917562 420)), (917563, (.int 917563 421)), (917564, (.int 917564 422)), (917565, (.int 917565 423)), (917566, (.int 917566 424)), (917567, (.int 917567 425)), (917568, (.int 917568 426)), (917569, (.int 917569 427)), (917570, (.int 917570 428)), (917571, (.int 917571 429)), (917572, (.int 917572 430)), (917573, (.int 917573 431)), (917574, (.int 917574 432)), (917575, (.int 917575 433)), (917576, (.int 917576 434)), (917577, (.int 917577 435)), (917578, (.int 917578 436)), (917579, (.int 917579 437)), (917580, (.int 917580 438)), (917581, (.int 917581 439)), (917582, (.int 917582 440)), (917583, (.int 917583 441)), (917584, (.int 917584 442)), (917585, (.int 917585 443)), (917586, (.int 917586 444)), (917587, (.int 917587 445)), (917588, (.int 917588 446)), (917589, (.int 917589 447)), (917590, (.int 917590 448)), (917591, (.int 917591 449)), (917592, (.int 917592 450)), (917593, (.int 917593 451)), (917594, (.int 917594 452)), (917595, (.int 917595 453)), (917596, (.int 917596 454)), (917597, (.int 917597 455)), (917598, (.int 917598 456)), (917599, (.int 917599 457)), (917600, (.int 917600 458)), (917601, (.int 917601 459)), (917602, (.int 917602 460)), (917603, (.int 917603 461)), (917604, (.int 917604 462)), (917605, (.int 917605 463)), (917606, (.int 917606 464)), (917607, (.int 917607 465)), (917608, (.int 917608 466)), (917609, (.int 917609 467)), (917610, (.int 917610 468)), (917611, (.int 917611 469)), (917612, (.int 917612 470)), (917613, (.int 917613 471)), (917614, (.int 917614 472)), (917615, (.int 917615 473)), (917616, (.int 917616 474))] 85 { mask := 511, place := #[1, 32, 33, 34, 35, 36, 37, 38, 39, 40, 41, 42, 43, 44, 45, 46, 47, 48, 49, 50, 51, 52, 53, 54, 55, 56, 57, 58, 59, 60, 61, 62, 63, 64, 65, 66, 67, 68, 69, 70, 71, 72, 73, 74, 75, 76, 77, 78, 79, 80, 81, 82, 83, 84, 85, 86, 87, 88, 89, 90, 91, 92, 93, 94, 95, 96, 97, 98, 99, 100, 101, 102, 103, 104, 105, 106, 107, 108, 109, 110, 111, 112], dummies := #[], finger := 0, led := !P.followText "set-order", moves := 3, plain := true }, slots := #[] }
noncomputable def x157v82 (P : Params) : Obj := { cls := (.type "list_iterator"), dict := none, data := .fields #[(.ref 155), (.int 82 0)], slots := #[] }
noncomputable def x156v83 (P : Params) : Obj := { cls := (.type "set"), dict := none, data := .set #[(917505, (.int 917505 388)), (917536, (.int 917536 394)), (917537, (.int 917537 395)), (917538, (.int 917538 396)), (917539, (.int 917539 397)), (917540, (.int 917540 398)), (917541, (.int 917541 399)), (917542, (.int 917542 400)), (917543, (.int 917543 401)), (917544, (.int 917544 402)), (917545, (.int 917545 403)), (917546, (.int 917546 404)), (917547, (.int 917547 405)), (917548, (.int 917548 406)), (917549, (.int 917549 407)), (917550, (.int 917550 408)), (917551, (.int 917551 409)), (917552, (.int 917552 410)), (917553, (.int 917553 411)), (917554, (.int 917554 412)), (917555, (.int 917555 413)), (917556, (.int 917556 414)), (917557, (.int 917557 415)), (917558, (.int 917558 416)), (917559, (.int 917559 417)), (917560, (.int 917560 418)), (917561, (.int 917561 419)), (917562, (.int 917562 420)), (917563, (.int 917563 421)), (917564, (.int 917564 422)), (917565, (.int 917565 423)), (917566, (.int 917566 424)), (917567, (.int 917567 425)), (917568, (.int 917568 426)), (917569, (.int 917569 427)), (917570, (.int 917570 428)), (917571, (.int 917571 429)), (917572, (.int 917572 430)), (917573, (.int 917573 431)), (917574, (.int 917574 432)), (917575, (.int 917575 433)), (917576, (.int 917576 434)), (917577, (.int 917577 435)), (917578, (.int 917578 436)), (917579, (.int 917579 437)), (917580, (.int 917580 438)), (917581, (.int 917581 439)), (917582, (.int 917582 440)), (917583, (.int 917583 441)), (917584, (.int 917584 442)), (917585, (.int 917585 443)), (917586, (.int 917586 444)), (917587, (.int 917587 445)), (917588, (.int 917588 446)), (917589, (.int 917589 447)), (917590, (.int 917590 448)), (917591, (.int 917591 449)), (917592, (.int 917592 450)), (917593, (.int 917593 451)), (917594, (.int 917594 452)), (917595, (.int 917595 453)), (917596, (.int 917596 454)), (917597, (.int 917597 455)), (917598, (.int 917598 456)), (917599, (.int 917599 457)), (917600, (.int 917600 458)), (917601, (.int 917601 459)), (917602, (.int 917602 460)), (917603, (.int 917603 461)), (917604, (.int 917604 462)), (917605, (.int 917605 463)), (917606, (.int 917606 464)), (917607, (.int 917607 465)), (917608, (.int 917608 466)), (917609, (.int 917609 467)), (917610, (.int 917610 468)), (917611, (.int 917611 469)), (917612, (.int 917612 470)), (917613, (.int 917613 471)), (917614, (.int 917614 472)), (917615, (.int 917615 473)), (917616, (.int 917616 474)), (917617, (.int 917617 475))] 86 { mask := 511, place := #[1, 32, 33, 34, 35, 36, 37, 38, 39, 40, 41, 42, 43, 44, 45, 46, 47, 48, 49, 50, 51, 52, 53, 54, 55, 56, 57, 58, 59, 60, 61, 62, 63, 64, 65, 66, 67, 68, 69, 70, 71, 72, 73, 74, 75, 76, 77, 78, 79, 80, 81, 82, 83, 84, 85, 86, 87, 88, 89, 90, 91, 92, 93, 94, 95, 96, 97, 98, 99, 100, 101, 102, 103, 104, 105, 106, 107, 108, 109, 110, 111, 112, 113], dummies := #[], finger := 0, led := !P.followText "set-order", moves := 3, plain := true }, slots := #[] }
noncomputable def x157v83 (P : Params) : Obj := { cls := (.type "list_iterator"), dict := none, data := .fields #[(.ref 155), (.int 83 0)], slots := #[] }
noncomputable def x156v84 (P : Params) : Obj := { cls := (.type "set"), dict := none, data := .set #[(917505, (.int 917505 388)), (917536, (.int 917536 394)), (917537, (.int 917537 395)), (917538, (.int 917538 396)), (917539, (.int 917539 397)), (917540, (.int 917540 398)), (917541, (.int 917541 399)), (917542, (.int 917542 400)), (917543, (.int 917543 401)), (917544, (.int 917544 402)), (917545, (.int 917545 403)), (917546, (.int 917546 404)), (917547, (.int 917547 405)), (917548, (.int 917548 406)), (917549, (.int 917549 407)), (917550, (.int 917550 408)), (917551, (.int 917551 409)), (917552, (.int 917552 410)), (917553, (.int 917553 411)), (917554, (.int 917554 412)), (917555, (.int 917555 413)), (917556, (.int 917556 414)), (917557, (.int 917557 415)), (917558, (.int 917558 416)), (917559, (.int 917559 417)), (917560, (.int 917560 418)), (917561, (.int 917561 419)), (917562, (.int 917562 420)), (917563, (.int 917563 421)), (917564, (.int 917564 422)), (917565, (.int 917565 423)), (917566, (.int 917566 424)), (917567, (.int 917567 425)), (917568, (.int 917568 426)), (917569, (.int 917569 427)), (917570, (.int 917570 428)), (917571, (.int 917571 429)), (917572, (.int 917572 430)), (917573, (.int 917573 431)), (917574, (.int 917574 432)), (917575, (.int 917575 433)), (917576, (.int 917576 434)), (917577, (.int 917577 435)), (917578, (.int 917578 436)), (917579, (.int 917579 437)), (917580, (.int 917580 438)), (917581, (.int 917581 439)), (917582, (.int 917582 440)), (917583, (.int 917583 441)), (917584, (.int 917584 442)), (917585, (.int 917585 443)), (917586, (.int 917586 444)), (917587, (.int 917587 445)), (917588, (.int 917588 446)), (917589, (.int 917589 447)), (917590, (.int 917590 448)), (917591, (.int 917591 449)), (917592, (.int 917592 450)), (917593, (.int 917593 451)), (917594, (.int 917594 452)), (917595, (.int 917595 453)), (917596, (.int 917596 454)), (917597, (.int 917597 455)), (917598, (.int 917598 456)), (917599, (.int 917599 457)), (917600, (.int 917600 458)), (917601, (.int 917601 459)), (917602, (.int 917602 460)), (917603, (.int 917603 461)), (917604, (.int 917604 462)), (917605, (.int 917605 463)), (917606, (.int 917606 464)), (917607, (.int 917607 465)), (917608, (.int 917608 466)), (917609, (.int 917609 467)), (917610, (.int 917610 468)), (917611, (.int 917611 469)), (917612, (.int 917612 470)), (917613, (.int 917613 471)), (917614, (.int 917614 472)), (917615, (.int 917615 473)), (917616, (.int 917616 474)), (917617, (.int 917617 475)), (917618, (.int 917618 476))] 87 { mask := 511, place := #[1, 32, 33, 34, 35, 36, 37, 38, 39, 40, 41, 42, 43, 44, 45, 46, 47, 48, 49, 50, 51, 52, 53, 54, 55, 56, 57, 58, 59, 60, 61, 62, 63, 64, 65, 66, 67, 68, 69, 70, 71, 72, 73, 74, 75, 76, 77, 78, 79, 80, 81, 82, 83, 84, 85, 86, 87, 88, 89, 90, 91, 92, 93, 94, 95, 96, 97, 98, 99, 100, 101, 102, 103, 104, 105, 106, 107, 108, 109, 110, 111, 112, 113, 114], dummies := #[], finger := 0, led := !P.followText "set-order", moves := 3, plain := true }, slots := #[] }
noncomputable def x157v84 (P : Params) : Obj := { cls := (.type "list_iterator"), dict := none, data := .fields #[(.ref 155), (.int 84 0)], slots := #[] }
noncomputable def x156v85 (P : Params) : Obj := { cls := (.type "set"), dict := none, data := .set #[(917505, (.int 917505 388)), (917536, (.int 917536 394)), (917537, (.int 917537 395)), (917538, (.int 917538 396)), (917539, (.int 917539 397)), (917540, (.int 917540 398)), (917541, (.int 917541 399)), (917542, (.int 917542 400)), (917543, (.int 917543 401)), (917544, (.int 917544 402)), (917545, (.int 917545 403)), (917546, (.int 917546 404)), (917547, (.int 917547 405)), (917548, (.int 917548 406)), (917549, (.int 917549 407)), (917550, (.int 917550 408)), (917551, (.int 917551 409)), (917552, (.int 917552 410)), (917553, (.int 917553 411)), (917554, (.int 917554 412)), (917555, (.int 917555 413)), (917556, (.int 917556 414)), (917557, (.int 917557 415)), (917558, (.int 917558 416)), (917559, (.int 917559 417)), (917560, (.int 917560 418)), (917561, (.int 917561 419)), (917562, (.int 917562 420)), (917563, (.int 917563 421)), (917564, (.int 917564 422)), (917565, (.int 917565 423)), (917566, (.int 917566 424)), (917567, (.int 917567 425)), (917568, (.int 917568 426)), (917569, (.int 917569 427)), (917570, (.int 917570 428)), (917571, (.int 917571 429)), (917572, (.int 917572 430)), (917573, (.int 917573 431)), (917574, (.int 917574 432)), (917575, (.int 917575 433)), (917576, (.int 917576 434)), (917577, (.int 917577 435)), (917578, (.int 917578 436)), (917579, (.int 917579 437)), (917580, (.int 917580 438)), (917581, (.int 917581 439)), (917582, (.int 917582 440)), (917583, (.int 917583 441)), (917584, (.int 917584 442)), (917585, (.int 917585 443)), (917586, (.int 917586 444)), (917587, (.int 917587 445)), (917588, (.int 917588 446)), (917589, (.int 917589 447)), (917590, (.int 917590 448)), (917591, (.int 917591 449)), (917592, (.int 917592 450)), (917593, (.int 917593 451)), (917594, (.int 917594 452)), (917595, (.int 917595 453)), (917596, (.int 917596 454)), (917597, (.int 917597 455)), (917598, (.int 917598 456)), (917599, (.int 917599 457)), (917600, (.int 917600 458)), (917601, (.int 917601 459)), (917602, (.int 917602 460)), (917603, (.int 917603 461)), (917604, (.int 917604 462)), (917605, (.int 917605 463)), (917606, (.int 917606 464)), (917607, (.int 917607 465)), (917608, (.int 917608 466)), (917609, (.int 917609 467)), (917610, (.int 917610 468)), (917611, (.int 917611 469)), (917612, (.int 917612 470)), (917613, (.int 917613 471)), (917614, (.int 917614 472)), (917615, (.int 917615 473)), (917616, (.int 917616 474)), (917617, (.int 917617 475)), (917618, (.int 917618 476)), (917619, (.int 917619 477))] 88 { mask := 511, place := #[1, 32, 33, 34, 35, 36, 37, 38, 39, 40, 41, 42, 43, 44, 45, 46, 47, 48, 49, 50, 51, 52, 53, 54, 55, 56, 57, 58, 59, 60, 61, 62, 63, 64, 65, 66, 67, 68, 69, 70, 71, 72, 73, 74, 75, 76, 77, 78, 79, 80, 81, 82, 83, 84, 85, 86, 87, 88, 89, 90, 91, 92, 93, 94, 95, 96, 97, 98, 99, 100, 101, 102, 103, 104, 105, 106, 107, 108, 109, 110, 111, 112, 113, 114, 115], dummies := #[], finger := 0, led := !P.followText "set-order", moves := 3, plain := true }, slots := #[] }
noncomputable def x157v85 (P : Params) : Obj := { cls := (.type "list_iterator"), dict := none, data := .fields #[(.ref 155), (.int 85 0)], slots := #[] }
noncomputable def x156v86 (P : Params) : Obj := { cls := (.type "set"), dict := none, data := .set #[(917505, (.int 917505 388)), (917536, (.int 917536 394)), (917537, (.int 917537 395)), (917538, (.int 917538 396)), (917539, (.int 917539 397)), (917540, (.int 917540 398)), (917541, (.int 917541 399)), (917542, (.int 917542 400)), (917543, (.int 917543 401)), (917544, (.int 917544 402)), (917545, (.int 917545 403)), (917546, (.int 917546 404)), (917547, (.int 917547 405)), (917548, (.int 917548 406)), (917549, (.int 917549 407)), (917550, (.int 917550 408)), (917551, (.int 917551 409)), (917552, (.int 917552 410)), (917553, (.int 917553 411)), (917554, (.int 917554 412)), (917555, (.int 917555 413)), (917556, (.int 917556 414)), (917557, (.int 917557 415)), (917558, (.int 917558 416)), (917559, (.int 917559 417)), (917560, (.int 917560 418)), (917561, (.int 917561 419)), (917562, (.int 917562 420)), (917563, (.int 917563 421)), (917564, (.int 917564 422)), (917565, (.int 917565 423)), (917566, (.int 917566 424)), (917567, (.int 917567 425)), (917568, (.int 917568 426)), (917569, (.int 917569 427)), (917570, (.int 917570 428)), (917571, (.int 917571 429)), (917572, (.int 917572 430)), (917573, (.int 917573 431)), (917574, (.int 917574 432)), (917575, (.int 917575 433)), (917576, (.int 917576 434)), (917577, (.int 917577 435)), (917578, (.int 917578 436)), (917579, (.int 917579 437)), (917580, (.int 917580 438)), (917581, (.int 917581 439)), (917582, (.int 917582 440)), (917583, (.int 917583 441)), (917584, (.int 917584 442)), (917585, (.int 917585 443)), (917586, (.int 917586 444)), (917587, (.int 917587 445)), (917588, (.int 917588 446)), (917589, (.int 917589 447)), (917590, (.int 917590 448)), (917591, (.int 917591 449)), (917592, (.int 917592 450)), (917593, (.int 917593 451)), (917594, (.int 917594 452)), (917595, (.int 917595 453)), (917596, (.int 917596 454)), (917597, (.int 917597 455)), (917598, (.int 917598 456)), (917599, (.int 917599 457)), (917600, (.int 917600 458)), (917601, (.int 917601 459)), (917602, (.int 917602 460)), (917603, (.int 917603 461)), (917604, (.int 917604 462)), (917605, (.int 917605 463)), (917606, (.int 917606 464)), (917607, (.int 917607 465)), (917608, (.int 917608 466)), (917609, (.int 917609 467)), (917610, (.int 917610 468)), (917611, (.int 917611 469)), (917612, (.int 917612 470)), (917613, (.int 917613 471)), (917614, (.int 917614 472)), (917615, (.int 917615 473)), (917616, (.int 917616 474)), (917617, (.int 917617 475)), (917618, (.int 917618 476)), (917619, (.int 917619 477)), (917620, (.int 917620 478))] 89 { mask := 511, place := #[1, 32, 33, 34, 35, 36, 37, 38, 39, 40, 41, 42, 43, 44, 45, 46, 47, 48, 49, 50, 51, 52, 53, 54, 55, 56, 57, 58, 59, 60, 61, 62, 63, 64, 65, 66, 67, 68, 69, 70, 71, 72, 73, 74, 75, 76, 77, 78, 79, 80, 81, 82, 83, 84, 85, 86, 87, 88, 89, 90, 91, 92, 93, 94, 95, 96, 97, 98, 99, 100, 101, 102, 103, 104, 105, 106, 107, 108, 109, 110, 111, 112, 113, 114, 115, 116], dummies := #[], finger := 0, led := !P.followText "set-order", moves := 3, plain := true }, slots := #[] }
noncomputable def x157v86 (P : Params) : Obj := { cls := (.type "list_iterator"), dict := none, data := .fields #[(.ref 155), (.int 86 0)], slots := #[] }
noncomputable def x156v87 (P : Params) : Obj := { cls := (.type "set"), dict := none, data := .set #[(917505, (.int 917505 388)), (917536, (.int 917536 394)), (917537, (.int 917537 395)), (917538, (.int 917538 396)), (917539, (.int 917539 397)), (917540, (.int 917540 398)), (917541, (.int 917541 399)), (917542, (.int 917542 400)), (917543, (.int 917543 401)), (917544, (.int 917544 402)), (917545, (.int 917545 403)), (917546, (.int 917546 404)), (917547, (.int 917547 405)), (917548, (.int 917548 406)), (917549, (.int 917549 407)), (917550, (.int 917550 408)), (917551, (.int 917551 409)), (917552, (.int 917552 410)), (917553, (.int 917553 411)), (917554, (.int 917554 412)), (917555, (.int 917555 413)), (917556, (.int 917556 414)), (917557, (.int 917557 415)), (917558, (.int 917558 416)), (917559, (.int 917559 417)), (917560, (.int 917560 418)), (917561, (.int 917561 419)), (917562, (.int 917562 420)), (917563, (.int 917563 421)), (917564, (.int 917564 422)), (917565, (.int 917565 423)), (917566, (.int 917566 424)), (917567, (.int 917567 425)), (917568, (.int 917568 426)), (917569, (.int 917569 427)), (917570, (.int 917570 428)), (917571, (.int 917571 429)), (917572, (.int 917572 430)), (917573, (.int 917573 431)), (917574, (.int 917574 432)), (917575, (.int 917575 433)), (917576, (.int 917576 434)), (917577, (.int 917577 435)), (917578, (.int 917578 436)), (917579, (.int 917579 437)), (917580, (.int 917580 438)), (917581, (.int 917581 439)), (917582, (.int 917582 440)), (917583, (.int 917583 441)), (917584, (.int 917584 442)), (917585, (.int 917585 443)), (917586, (.int 917586 444)), (917587, (.int 917587 445)), (917588, (.int 917588 446)), (917589, (.int 917589 447)), (917590, (.int 917590 448)), (917591, (.int 917591 449)), (917592, (.int 917592 450)), (917593, (.int 917593 451)), (917594, (.int 917594 452)), (917595, (.int 917595 453)), (917596, (.int 917596 454)), (917597, (.int 917597 455)), (917598, (.int 917598 456)), (917599, (.int 917599 457)), (917600, (.int 917600 458)), (917601, (.int 917601 459)), (917602, (.int 917602 460)), (917603, (.int 917603 461)), (917604, (.int 917604 462)), (917605, (.int 917605 463)), (917606, (.int 917606 464)), (917607, (.int 917607 465)), (917608, (.int 917608 466)), (917609, (.int 917609 467)), (917610, (.int 917610 468)), (917611, (.int 917611 469)), (917612, (.int 917612 470)), (917613, (.int 917613 471)), (917614, (.int 917614 472)), (917615, (.int 917615 473)), (917616, (.int 917616 474)), (917617, (.int 917617 475)), (917618, (.int 917618 476)), (917619, (.int 917619 477)), (917620, (.int 917620 478)), (917621, (.int 917621 479))] 90 { mask := 511, place := #[1, 32, 33, 34, 35, 36, 37, 38, 39, 40, 41, 42, 43, 44, 45, 46, 47, 48, 49, 50, 51, 52, 53, 54, 55, 56, 57, 58, 59, 60, 61, 62, 63, 64, 65, 66, 67, 68, 69, 70, 71, 72, 73, 74, 75, 76, 77, 78, 79, 80, 81, 82, 83, 84, 85, 86, 87, 88, 89, 90, 91, 92, 93, 94, 95, 96, 97, 98, 99, 100, 101, 102, 103, 104, 105, 106, 107, 108, 109, 110, 111, 112, 113, 114, 115, 116, 117], dummies := #[], finger := 0, led := !P.followText "set-order", moves := 3, plain := true }, slots := #[] }
noncomputable def x157v87 (P : Params) : Obj := { cls := (.type "list_iterator"), dict := none, data := .fields #[(.ref 155), (.int 87 0)], slots := #[] }
noncomputable def x156v88 (P : Params) : Obj := { cls := (.type "set"), dict := none, data := .set #[(917505, (.int 917505 388)), (917536, (.int 917536 394)), (917537, (.int 917537 395)), (917538, (.int 917538 396)), (917539, (.int 917539 397)), (917540, (.int 917540 398)), (917541, (.int 917541 399)), (917542, (.int 917542 400)), (917543, (.int 917543 401)), (917544, (.int 917544 402)), (917545, (.int 917545 403)), (917546, (.int 917546 404)), (917547, (.int 917547 405)), (917548, (.int 917548 406)), (917549, (.int 917549 407)), (917550, (.int 917550 408)), (917551, (.int 917551 409)), (917552, (.int 917552 410)), (917553, (.int 917553 411)), (917554, (.int 917554 412)), (917555, (.int 917555 413)), (917556, (.int 917556 414)), (917557, (.int 917557 415)), (917558, (.int 917558 416)), (917559, (.int 917559 417)), (917560, (.int 917560 418)), (917561, (.int 917561 419)), (917562, (.int 917562 420)), (917563, (.int 917563 421)), (917564, (.int 917564 422)), (917565, (.int 917565 423)), (917566, (.int 917566 424)), (917567, (.int 917567 425)), (917568, (.int 917568 426)), (917569, (.int 917569 427)), (917570, (.int 917570 428)), (917571, (.int 917571 429)), (917572, (.int 917572 430)), (917573, (.int 917573 431)), (917574, (.int 917574 432)), (917575, (.int 917575 433)), (917576, (.int 917576 434)), (917577, (.int 917577 435)), (917578, (.int 917578 436)), (917579, (.int 917579 437)), (917580, (.int 917580 438)), (917581, (.int 917581 439)), (917582, (.int 917582 440)), (917583, (.int 917583 441)), (917584, (.int 917584 442)), (917585, (.int 917585 443)), (917586, (.int 917586 444)), (917587, (.int 917587 445)), (917588, (.int 917588 446)), (917589, (.int 917589 447)), (917590, (.int 917590 448)), (917591, (.int 917591 449)), (917592, (.int 917592 450)), (917593, (.int 917593 451)), (917594, (.int 917594 452)), (917595, (.int 917595 453)), (917596, (.int 917596 454)), (917597, (.int 917597 455)), (917598, (.int 917598 456)), (917599, (.int 917599 457)), (917600, (.int 917600 458)), (917601, (.int 917601 459)), (917602, (.int 917602 460)), (917603, (.int 917603 461)), (917604, (.int 917604 462)), (917605, (.int 917605 463)), (917606, (.int 917606 464)), (917607, (.int 917607 465)), (917608, (.int 917608 466)), (917609, (.int 917609 467)), (917610, (.int 917610 468)), (917611, (.int 917611 469)), (917612, (.int 917612 470)), (917613, (.int 917613 471)), (917614, (.int 917614 472)), (917615, (.int 917615 473)), (917616, (.int 917616 474)), (917617, (.int 917617 475)), (917618, (.int 917618 476)), (917619, (.int 917619 477)), (917620, (.int 917620 478)), (917621, (.int 917621 479)), (917622, (.int 917622 480))] 91 { mask := 511, place := #[1, 32, 33, 34, 35, 36, 37, 38, 39, 40, 41, 42, 43, 44, 45, 46, 47, 48, 49, 50, 51, 52, 53, 54, 55, 56, 57, 58, 59, 60, 61, 62, 63, 64, 65, 66, 67, 68, 69, 70, 71, 72, 73, 74, 75, 76, 77, 78, 79, 80, 81, 82, 83, 84, 85, 86, 87, 88, 89, 90, 91, 92, 93, 94, 95, 96, 97, 98, 99, 100, 101, 102, 103, 104, 105, 106, 107, 108, 109, 110, 111, 112, 113, 114, 115, 116, 117, 118], dummies := #[], finger := 0, led := !P.followText "set-order", moves := 3, plain := true }, slots := #[] }
noncomputable def x157v88 (P : Params) : Obj := { cls := (.type "list_iterator"), dict := none, data := .fields #[(.ref 155), (.int 88 0)], slots := #[] }
noncomputable def x156v89 (P : Params) : Obj := { cls := (.type "set"), dict := none, data := .set #[(917505, (.int 917505 388)), (917536, (.int 917536 394)), (917537, (.int 917537 395)), (917538, (.int 917538 396)), (917539, (.int 917539 397)), (917540, (.int 917540 398)), (917541, (.int 917541 399)), (917542, (.int 917542 400)), (917543, (.int 917543 401)), (917544, (.int 917544 402)), (917545, (.int 917545 403)), (917546, (.int 917546 404)), (917547, (.int 917547 405)), (917548, (.int 917548 406)), (917549, (.int 917549 407)), (917550, (.int 917550 408)), (917551, (.int 917551 409)), (917552, (.int 917552 410)), (917553, (.int 917553 411)), (917554, (.int 917554 412)), (917555, (.int 917555 413)), (917556, (.int 917556 414)), (917557, (.int 917557 415)), (917558, (.int 917558 416)), (917559, (.int 917559 417)), (917560, (.int 917560 418)), (917561, (.int 917561 419)), (917562, (.int 917562 420)), (917563, (.int 917563 421)), (917564, (.int 917564 422)), (917565, (.int 917565 423)), (917566, (.int 917566 424)), (917567, (.int 917567 425)), (917568, (.int 917568 426)), (917569, (.int 917569 427)), (917570, (.int 917570 428)), (917571, (.int 917571 429)), (917572, (.int 917572 430)), (917573, (.int 917573 431)), (917574, (.int 917574 432)), (917575, (.int 917575 433)), (917576, (.int 917576 434)), (917577, (.int 917577 435)), (917578, (.int 917578 436)), (917579, (.int 917579 437)), (917580, (.int 917580 438)), (917581, (.int 917581 439)), (917582, (.int 917582 440)), (917583, (.int 917583 441)), (917584, (.int 917584 442)), (917585, (.int 917585 443)), (917586, (.int 917586 444)), (917587, (.int 917587 445)), (917588, (.int 917588 446)), (917589, (.int 917589 447)), (917590, (.int 917590 448)), (917591, (.int 917591 449)), (917592, (.int 917592 450)), (917593, (.int 917593 451)), (917594, (.int 917594 452)), (917595, (.int 917595 453)), (917596, (.int 917596 454)), (917597, (.int 917597 455)), (917598, (.int 917598 456)), (917599, (.int 917599 457)), (917600, (.int 917600 458)), (917601, (.int 917601 459)), (917602, (.int 917602 460)), (917603, (.int 917603 461)), (917604, (.int 917604 462)), (917605, (.int 917605 463)), (917606, (.int 917606 464)), (917607, (.int 917607 465)), (917608, (.int 917608 466)), (917609, (.int 917609 467)), (917610, (.int 917610 468)), (917611, (.int 917611 469)), (917612, (.int 917612 470)), (917613, (.int 917613 471)), (917614, (.int 917614 472)), (917615, (.int 917615 473)), (917616, (.int 917616 474)), (917617, (.int 917617 475)), (917618, (.int 917618 476)), (917619, (.int 917619 477)), (917620, (.int 917620 478)), (917621, (.int 917621 479)), (917622, (.int 917622 480)), (917623, (.int 917623 481))] 92 { mask := 511, place := #[1, 32, 33, 34, 35, 36, 37, 38, 39, 40, 41, 42, 43, 44, 45, 46, 47, 48, 49, 50, 51, 52, 53, 54, 55, 56, 57, 58, 59, 60, 61, 62, 63, 64, 65, 66, 67, 68, 69, 70, 71, 72, 73, 74, 75, 76, 77, 78, 79, 80, 81, 82, 83, 84, 85, 86, 87, 88, 89, 90, 91, 92, 93, 94, 95, 96, 97, 98, 99, 100, 101, 102, 103, 104, 105, 106, 107, 108, 109, 110, 111, 112, 113, 114, 115, 116, 117, 118, 119], dummies := #[], finger := 0, led := !P.followText "set-order", moves := 3, plain := true }, slots := #[] }
noncomputable def x157v89 (P : Params) : Obj := { cls := (.type "list_iterator"), dict := none, data := .fields #[(.ref 155), (.int 89 0)], slots := #[] }
noncomputable def x156v90 (P : Params) : Obj := { cls := (.type "set"), dict := none, data := .set #[(917505, (.int 917505 388)), (917536, (.int 917536 394)), (917537, (.int 917537 395)), (917538, (.int 917538 396)), (917539, (.int 917539 397)), (917540, (.int 917540 398)), (917541, (.int 917541 399)), (917542, (.int 917542 400)), (917543, (.int 917543 401)), (917544, (.int 917544 402)), (917545, (.int 917545 403)), (917546, (.int 917546 404)), (917547, (.int 917547 405)), (917548, (.int 917548 406)), (917549, (.int 917549 407)), (917550, (.int 917550 408)), (917551, (.int 917551 409)), (917552, (.int 917552 410)), (917553, (.int 917553 411)), (917554, (.int 917554 412)), (917555, (.int 917555 413)), (917556, (.int 917556 414)), (917557, (.int 917557 415)), (917558, (.int 917558 416)), (917559, (.int 917559 417)), (917560, (.int 917560 418)), (917561, (.int 917561 419)), (917562, (.int 917562 420)), (917563, (.int 917563 421)), (917564, (.int 917564 422)), (917565, (.int 917565 423)), (917566, (.int 917566 424)), (917567, (.int 917567 425)), (917568, (.int 917568 426)), (917569, (.int 917569 427)), (917570, (.int 917570 428)), (917571, (.int 917571 429)), (917572, (.int 917572 430)), (917573, (.int 917573 431)), (917574, (.int 917574 432)), (917575, (.int 917575 433)), (917576, (.int 917576 434)), (917577, (.int 917577 435)), (917578, (.int 917578 436)), (917579, (.int 917579 437)), (917580, (.int 917580 438)), (917581, (.int 917581 439)), (917582, (.int 917582 440)), (917583, (.int 917583 441)), (917584, (.int 917584 442)), (917585, (.int 917585 443)), (917586, (.int 917586 444)), (917587, (.int 917587 445)), (917588, (.int 917588 446)), (917589, (.int 917589 447)), (917590, (.int 917590 448)), (917591, (.int 917591 449)), (917592, (.int 917592 450)), (917593, (.int 917593 451)), (917594, (.int 917594 452)), (917595, (.int 917595 453)), (917596, (.int 917596 454)), (917597, (.int 917597 455)), (917598, (.int 917598 456)), (917599, (.int 917599 457)), (917600, (.int 917600 458)), (917601, (.int 917601 459)), (917602, (.int 917602 460)), (917603, (.int 917603 461)), (917604, (.int 917604 462)), (917605, (.int 917605 463)), (917606, (.int 917606 464)), (917607, (.int 917607 465)), (917608, (.int 917608 466)), (917609, (.int 917609 467)), (917610, (.int 917610 468)), (917611, (.int 917611 469)), (917612, (.int 917612 470)), (917613, (.int 917613 471)), (917614, (.int 917614 472)), (917615, (.int 917615 473)), (917616, (.int 917616 474)), (917617, (.int 917617 475)), (917618, (.int 917618 476)), (917619, (.int 917619 477)), (917620, (.int 917620 478)), (917621, (.int 917621 479)), (917622, (.int 917622 480)), (917623, (.int 917623 481)), (917624, (.int 917624 482))] 93 { mask := 511, place := #[1, 32, 33, 34, 35, 36, 37, 38, 39, 40, 41, 42, 43, 44, 45, 46, 47, 48, 49, 50, 51, 52, 53, 54, 55, 56, 57, 58, 59, 60, 61, 62, 63, 64, 65, 66, 67, 68, 69, 70, 71, 72, 73, 74, 75, 76, 77, 78, 79, 80, 81, 82, 83, 84, 85, 86, 87, 88, 89, 90, 91, 92, 93, 94, 95, 96, 97, 98, 99, 100, 101, 102, 103, 104, 105, 106, 107, 108, 109, 110, 111, 112, 113, 114, 115, 116, 117, 118, 119, 120], dummies := #[], finger := 0, led := !P.followText "set-order", moves := 3, plain := true }, slots := #[] }
noncomputable def x157v90 (P : Params) : Obj := { cls := (.type "list_iterator"), dict := none, data := .fields #[(.ref 155), (.int 90 0)], slots := #[] }
noncomputable def x156v91 (P : Params) : Obj := { cls := (.type "set"), dict := none, data := .set #[(917505, (.int 917505 388)), (917536, (.int 917536 394)), (917537, (.int 917537 395)), (917538, (.int 917538 396)), (917539, (.int 917539 397)), (917540, (.int 917540 398)), (917541, (.int 917541 399)), (917542, (.int 917542 400)), (917543, (.int 917543 401)), (917544, (.int 917544 402)), (917545, (.int 917545 403)), (917546, (.int 917546 404)), (917547, (.int 917547 405)), (917548, (.int 917548 406)), (917549, (.int 917549 407)), (917550, (.int 917550 408)), (917551, (.int 917551 409)), (917552, (.int 917552 410)), (917553, (.int 917553 411)), (917554, (.int 917554 412)), (917555, (.int 917555 413)), (917556, (.int 917556 414)), (917557, (.int 917557 415)), (917558, (.int 917558 416)), (917559, (.int 917559 417)), (917560, (.int 917560 418)), (917561, (.int 917561 419)), (917562, (.int 917562 420)), (917563, (.int 917563 421)), (917564, (.int 917564 422)), (917565, (.int 917565 423)), (917566, (.int 917566 424)), (917567, (.int 917567 425)), (917568, (.int 917568 426)), (917569, (.int 917569 427)), (917570, (.int 917570 428)), (917571, (.int 917571 429)), (917572, (.int 917572 430)), (917573, (.int 917573 431)), (917574, (.int 917574 432)), (917575, (.int 917575 433)), (917576, (.int 917576 434)), (917577, (.int 917577 435)), (917578, (.int 917578 436)), (917579, (.int 917579 437)), (917580, (.int 917580 438)), (917581, (.int 917581 439)), (917582, (.int 917582 440)), (917583, (.int 917583 441)), (917584, (.int 917584 442)), (917585, (.int 917585 443)), (917586, (.int 917586 444)), (917587, (.int 917587 445)), (917588, (.int 917588 446)), (917589, (.int 917589 447)), (917590, (.int 917590 448)), (917591, (.int 917591 449)), (917592, (.int 917592 450)), (917593, (.int 917593 451)), (917594, (.int 917594 452)), (917595, (.int 917595 453)), (917596, (.int 917596 454)), (917597, (.int 917597 455)), (917598, (.int 917598 456)), (917599, (.int 917599 457)), (917600, (.int 917600 458)), (917601, (.int 917601 459)), (917602, (.int 917602 460)), (917603, (.int 917603 461)), (917604, (.int 917604 462)), (917605, (.int 917605 463)), (917606, (.int 917606 464)), (917607, (.int 917607 465)), (917608, (.int 917608 466)), (917609, (.int 917609 467)), (917610, (.int 917610 468)), (917611, (.int 917611 469)), (917612, (.int 917612 470)), (917613, (.int 917613 471)), (917614, (.int 917614 472)), (917615, (.int 917615 473)), (917616, (.int 917616 474)), (917617, (.int 917617 475)), (917618, (.int 917618 476)), (917619, (.int 917619 477)), (917620, (.int 917620 478)), (917621, (.int 917621 479)), (917622, (.int 917622 480)), (917623, (.int 917623 481)), (917624, (.int 917624 482)), (917625, (.int 917625 483))] 94 { mask := 511, place := #[1, 32, 33, 34, 35, 36, 37, 38, 39, 40, 41, 42, 43, 44, 45, 46, 47, 48, 49, 50, 51, 52, 53, 54, 55, 56, 57, 58, 59, 60, 61, 62, 63, 64, 65, 66, 67, 68, 69, 70, 71, 72, 73, 74, 75, 76, 77, 78, 79, 80, 81, 82, 83, 84, 85, 86, 87, 88, 89, 90, 91, 92, 93, 94, 95, 96, 97, 98, 99, 100, 101, 102, 103, 104, 105, 106, 107, 108, 109, 110, 111, 112, 113, 114, 115, 116, 117, 118, 119, 120, 121], dummies := #[], finger := 0, led := !P.followText "set-order", moves := 3, plain := true }, slots := #[] }
noncomputable def x157v91 (P : Params) : Obj := { cls := (.type "list_iterator"), dict := none, data := .fields #[(.ref 155), (.int 91 0)], slots := #[] }
noncomputable def x156v92 (P : Params) : Obj := { cls := (.type "set"), dict := none, data := .set #[(917505, (.int 917505 388)), (917536, (.int 917536 394)), (917537, (.int 917537 395)), (917538, (.int 917538 396)), (917539, (.int 917539 397)), (917540, (.int 917540 398)), (917541, (.int 917541 399)), (917542, (.int 917542 400)), (917543, (.int 917543 401)), (917544, (.int 917544 402)), (917545, (.int 917545 403)), (917546, (.int 917546 404)), (917547, (.int 917547 405)), (917548, (.int 917548 406)), (917549, (.int 917549 407)), (917550, (.int 917550 408)), (917551, (.int 917551 409)), (917552, (.int 917552 410)), (917553, (.int 917553 411)), (917554, (.int 917554 412)), (917555, (.int 917555 413)), (917556, (.int 917556 414)), (917557, (.int 917557 415)), (917558, (.int 917558 416)), (917559, (.int 917559 417)), (917560, (.int 917560 418)), (917561, (.int 917561 419)), (917562, (.int 917562 420)), (917563, (.int 917563 421)), (917564, (.int 917564 422)), (917565, (.int 917565 423)), (917566, (.int 917566 424)), (917567, (.int 917567 425)), (917568, (.int 917568 426)), (917569, (.int 917569 427)), (917570, (.int 917570 428)), (917571, (.int 917571 429)), (917572, (.int 917572 430)), (917573, (.int 917573 431)), (917574, (.int 917574 432)), (917575, (.int 917575 433)), (917576, (.int 917576 434)), (917577, (.int 917577 435)), (917578, (.int 917578 436)), (917579, (.int 917579 437)), (917580, (.int 917580 438)), (917581, (.int 917581 439)), (917582, (.int 917582 440)), (917583, (.int 917583 441)), (917584, (.int 917584 442)), (917585, (.int 917585 443)), (917586, (.int 917586 444)), (917587, (.int 917587 445)), (917588, (.int 917588 446)), (917589, (.int 917589 447)), (917590, (.int 917590 448)), (917591, (.int 917591 449)), (917592, (.int 917592 450)), (917593, (.int 917593 451)), (917594, (.int 917594 452)), (917595, (.int 917595 453)), (917596, (.int 917596 454)), (917597, (.int 917597 455)), (917598, (.int 917598 456)), (917599, (.int 917599 457)), (917600, (.int 917600 458)), (917601, (.int 917601 459)), (917602, (.int 917602 460)), (917603, (.int 917603 461)), (917604, (.int 917604 462)), (917605, (.int 917605 463)), (917606, (.int 917606 464)), (917607, (.int 917607 465)), (917608, (.int 917608 466)), (917609, (.int 917609 467)), (917610, (.int 917610 468)), (917611, (.int 917611 469)), (917612, (.int 917612 470)), (917613, (.int 917613 471)), (917614, (.int 917614 472)), (917615, (.int 917615 473)), (917616, (.int 917616 474)), (917617, (.int 917617 475)), (917618, (.int 917618 476)), (917619, (.int 917619 477)), (917620, (.int 917620 478)), (917621, (.int 917621 479)), (917622, (.int 917622 480)), (917623, (.int 917623 481)), (917624, (.int 917624 482)), (917625, (.int 917625 483)), (917626, (.int 917626 484))] 95 { mask := 511, place := #[1, 32, 33, 34, 35, 36, 37, 38, 39, 40, 41, 42, 43, 44, 45, 46, 47, 48, 49, 50, 51, 52, 53, 54, 55, 56, 57, 58, 59, 60, 61, 62, 63, 64, 65, 66, 67, 68, 69, 70, 71, 72, 73, 74, 75, 76, 77, 78, 79, 80, 81, 82, 83, 84, 85, 86, 87, 88, 89, 90, 91, 92, 93, 94, 95, 96, 97, 98, 99, 100, 101, 102, 103, 104, 105, 106, 107, 108, 109, 110, 111, 112, 113, 114, 115, 116, 117, 118, 119, 120, 121, 122], dummies := #[], finger := 0, led := !P.followText "set-order", moves := 3, plain := true }, slots := #[] }
noncomputable def x157v92 (P : Params) : Obj := { cls := (.type "list_iterator"), dict := none, data := .fields #[(.ref 155), (.int 92 0)], slots := #[] }
noncomputable def x156v93 (P : Params) : Obj := { cls := (.type "set"), dict := none, data := .set #[(917505, (.int 917505 388)), (917536, (.int 917536 394)), (917537, (.int 917537 395)), (917538, (.int 917538 396)), (917539, (.int 917539 397)), (917540, (.int 917540 398)), (917541, (.int 917541 399)), (917542, (.int 917542 400)), (917543, (.int 917543 401)), (917544, (.int 917544 402)), (917545, (.int 917545 403)), (917546, (.int 917546 404)), (917547, (.int 917547 405)), (917548, (.int 917548 406)), (917549, (.int 917549 407)), (917550, (.int 917550 408)), (917551, (.int 917551 409)), (917552, (.int 917552 410)), (917553, (.int 917553 411)), (917554, (.int 917554 412)), (917555, (.int 917555 413)), (917556, (.int 917556 414)), (917557, (.int 917557 415)), (917558, (.int 917558 416)), (917559, (.int 917559 417)), (917560, (.int 917560 418)), (917561, (.int 917561 419)), (917562, (.int 917562 420)), (917563, (.int 917563 421)), (917564, (.int 917564 422)), (917565, (.int 917565 423)), (917566, (.int 917566 424)), (917567, (.int 917567 425)), (917568, (.int 917568 426)), (917569, (.int 917569 427)), (917570, (.int 917570 428)), (917571, (.int 917571 429)), (917572, (.int 917572 430)), (917573, (.int 917573 431)), (917574, (.int 917574 432)), (917575, (.int 917575 433)), (917576, (.int 917576 434)), (917577, (.int 917577 435)), (917578, (.int 917578 436)), (917579, (.int 917579 437)), (917580, (.int 917580 438)), (917581, (.int 917581 439)), (917582, (.int 917582 440)), (917583, (.int 917583 441)), (917584, (.int 917584 442)), (917585, (.int 917585 443)), (917586, (.int 917586 444)), (917587, (.int 917587 445)), (917588, (.int 917588 446)), (917589, (.int 917589 447)), (917590, (.int 917590 448)), (917591, (.int 917591 449)), (917592, (.int 917592 450)), (917593, (.int 917593 451)), (917594, (.int 917594 452)), (917595, (.int 917595 453)), (917596, (.int 917596 454)), (917597, (.int 917597 455)), (917598, (.int 917598 456)), (917599, (.int 917599 457)), (917600, (.int 917600 458)), (917601, (.int 917601 459)), (917602, (.int 917602 460)), (917603, (.int 917603 461)), (917604, (.int 917604 462)), (917605, (.int 917605 463)), (917606, (.int 917606 464)), (917607, (.int 917607 465)), (917608, (.int 917608 466)), (917609, (.int 917609 467)), (917610, (.int 917610 468)), (917611, (.int 917611 469)), (917612, (.int 917612 470)), (917613, (.int 917613 471)), (917614, (.int 917614 472)), (917615, (.int 917615 473)), (917616, (.int 917616 474)), (917617, (.int 917617 475)), (917618, (.int 917618 476)), (917619, (.int 917619 477)), (917620, (.int 917620 478)), (917621, (.int 917621 479)), (917622, (.int 917622 480)), (917623, (.int 917623 481)), (917624, (.int 917624 482)), (917625, (.int 917625 483)), (917626, (.int 917626 484)), (917627, (.int 917627 485))] 96 { mask := 511, place := #[1, 32, 33, 34, 35, 36, 37, 38, 39, 40, 41, 42, 43, 44, 45, 46, 47, 48, 49, 50, 51, 52, 53, 54, 55, 56, 57, 58, 59, 60, 61, 62, 63, 64, 65, 66, 67, 68, 69, 70, 71, 72, 73, 74, 75, 76, 77, 78, 79, 80, 81, 82, 83, 84, 85, 86, 87, 88, 89, 90, 91, 92, 93, 94, 95, 96, 97, 98, 99, 100, 101, 102, 103, 104, 105, 106, 107, 108, 109, 110, 111, 112, 113, 114, 115, 116, 117, 118, 119, 120, 121, 122, 123], dummies := #[], finger := 0, led := !P.followText "set-order", moves := 3, plain := true }, slots := #[] }
noncomputable def x157v93 (P : Params) : Obj := { cls := (.type "list_iterator"), dict := none, data := .fields #[(.ref 155), (.int 93 0)], slots := #[] }
noncomputable def x156v94 (P : Params) : Obj := { cls := (.type "set"), dict := none, data := .set #[(917505, (.int 917505 388)), (917536, (.int 917536 394)), (917537, (.int 917537 395)), (917538, (.int 917538 396)), (917539, (.int 917539 397)), (917540, (.int 917540 398)), (917541, (.int 917541 399)), (917542, (.int 917542 400)), (917543, (.int 917543 401)), (917544, (.int 917544 402)), (917545, (.int 917545 403)), (917546, (.int 917546 404)), (917547, (.int 917547 405)), (917548, (.int 917548 406)), (917549, (.int 917549 407)), (917550, (.int 917550 408)), (917551, (.int 917551 409)), (917552, (.int 917552 410)), (917553, (.int 917553 411)), (917554, (.int 917554 412)), (917555, (.int 917555 413)), (917556, (.int 917556 414)), (917557, (.int 917557 415)), (917558, (.int 917558 416)), (917559, (.int 917559 417)), (917560, (.int 917560 418)), (917561, (.int 917561 419)), (917562, (.int 917562 420)), (917563, (.int 917563 421)), (917564, (.int 917564 422)), (917565, (.int 917565 423)), (917566, (.int 917566 424)), (917567, (.int 917567 425)), (917568, (.int 917568 426)), (917569, (.int 917569 427)), (917570, (.int 917570 428)), (917571, (.int 917571 429)), (917572, (.int 917572 430)), (917573, (.int 917573 431)), (917574, (.int 917574 432)), (917575, (.int 917575 433)), (917576, (.int 917576 434)), (917577, (.int 917577 435)), (917578, (.int 917578 436)), (917579, (.int 917579 437)), (917580, (.int 917580 438)), (917581, (.int 917581 439)), (917582, (.int 917582 440)), (917583, (.int 917583 441)), (917584, (.int 917584 442)), (917585, (.int 917585 443)), (917586, (.int 917586 444)), (917587, (.int 917587 445)), (917588, (.int 917588 446)), (917589, (.int 917589 447)), (917590, (.int 917590 448)), (917591, (.int 917591 449)), (917592, (.int 917592 450)), (917593, (.int 917593 451)), (917594, (.int 917594 452)), (917595, (.int 917595 453)), (917596, (.int 917596 454)), (917597, (.int 917597 455)), (917598, (.int 917598 456)), (917599, (.int 917599 457)), (917600, (.int 917600 458)), (917601, (.int 917601 459)), (917602, (.int 917602 460)), (917603, (.int 917603 461)), (917604, (.int 917604 462)), (917605, (.int 917605 463)), (917606, (.int 917606 464)), (917607, (.int 917607 465)), (917608, (.int 917608 466)), (917609, (.int 917609 467)), (917610, (.int 917610 468)), (917611, (.int 917611 469)), (917612, (.int 917612 470)), (917613, (.int 917613 471)), (917614, (.int 917614 472)), (917615, (.int 917615 473)), (917616, (.int 917616 474)), (917617, (.int 917617 475)), (917618, (.int 917618 476)), (917619, (.int 917619 477)), (917620, (.int 917620 478)), (917621, (.int 917621 479)), (917622, (.int 917622 480)), (917623, (.int 917623 481)), (917624, (.int 917624 482)), (917625, (.int 917625 483)), (917626, (.int 917626 484)), (917627, (.int 917627 485)), (917628, (.int 917628 486))] 97 { mask := 511, place := #[1, 32, 33, 34, 35, 36, 37, 38, 39, 40, 41, 42, 43, 44, 45, 46, 47, 48, 49, 50, 51, 52, 53, 54, 55, 56, 57, 58, 59, 60, 61, 62, 63, 64, 65, 66, 67, 68, 69, 70, 71, 72, 73, 74, 75, 76, 77, 78, 79, 80, 81, 82, 83, 84, 85, 86, 87, 88, 89, 90, 91, 92, 93, 94, 95, 96, 97, 98, 99, 100, 101, 102, 103, 104, 105, 106, 107, 108, 109, 110, 111, 112, 113, 114, 115, 116, 117, 118, 119, 120, 121, 122, 123, 124], dummies := #[], finger := 0, led := !P.followText "set-order", moves := 3, plain := true }, slots := #[] }
noncomputable def x157v94 (P : Params) : Obj := { cls := (.type "list_iterator"), dict := none, data := .fields #[(.ref 155), (.int 94 0)], slots := #[] }
noncomputable def x156v95 (P : Params) : Obj := { cls := (.type "set"), dict := none, data := .set #[(917505, (.int 917505 388)), (917536, (.int 917536 394)), (917537, (.int 917537 395)), (917538, (.int 917538 396)), (917539, (.int 917539 397)), (917540, (.int 917540 398)), (917541, (.int 917541 399)), (917542, (.int 917542 400)), (917543, (.int 917543 401)), (917544, (.int 917544 402)), (917545, (.int 917545 403)), (917546, (.int 917546 404)), (917547, (.int 917547 405)), (917548, (.int 917548 406)), (917549, (.int 917549 407)), (917550, (.int 917550 408)), (917551, (.int 917551 409)), (917552, (.int 917552 410)), (917553, (.int 917553 411)), (917554, (.int 917554 412)), (917555, (.int 917555 413)), (917556, (.int 917556 414)), (917557, (.int 917557 415)), (917558, (.int 917558 416)), (917559, (.int 917559 417)), (917560, (.int 917560 418)), (917561, (.int 917561 419)), (917562, (.int 917562 420)), (917563, (.int 917563 421)), (917564, (.int 917564 422)), (917565, (.int 917565 423)), (917566, (.int 917566 424)), (917567, (.int 917567 425)), (917568, (.int 917568 426)), (917569, (.int 917569 427)), (917570, (.int 917570 428)), (917571, (.int 917571 429)), (917572, (.int 917572 430)), (917573, (.int 917573 431)), (917574, (.int 917574 432)), (917575, (.int 917575 433)), (917576, (.int 917576 434)), (917577, (.int 917577 435)), (917578, (.int 917578 436)), (917579, (.int 917579 437)), (917580, (.int 917580 438)), (917581, (.int 917581 439)), (917582, (.int 917582 440)), (917583, (.int 917583 441)), (917584, (.int 917584 442)), (917585, (.int 917585 443)), (917586, (.int 917586 444)), (917587, (.int 917587 445)), (917588, (.int 917588 446)), (917589, (.int 917589 447)), (917590, (.int 917590 448)), (917591, (.int 917591 449)), (917592, (.int 917592 450)), (917593, (.int 917593 451)), (917594, (.int 917594 452)), (917595, (.int 917595 453)), (917596, (.int 917596 454)), (917597, (.int 917597 455)), (917598, (.int 917598 456)), (917599, (.int 917599 457)), (917600, (.int 917600 458)), (917601, (.int 917601 459)), (917602, (.int 917602 460)), (917603, (.int 917603 461)), (917604, (.int 917604 462)), (917605, (.int 917605 463)), (917606, (.int 917606 464)), (917607, (.int 917607 465)), (917608, (.int 917608 466)), (917609, (.int 917609 467)), (917610, (.int 917610 468)), (917611, (.int 917611 469)), (917612, (.int 917612 470)), (917613, (.int 917613 471)), (917614, (.int 917614 472)), (917615, (.int 917615 473)), (917616, (.int 917616 474)), (917617, (.int 917617 475)), (917618, (.int 917618 476)), (917619, (.int 917619 477)), (917620, (.int 917620 478)), (917621, (.int 917621 479)), (917622, (.int 917622 480)), (917623, (.int 917623 481)), (917624, (.int 917624 482)), (917625, (.int 917625 483)), (917626, (.int 917626 484)), (917627, (.int 917627 485)), (917628, (.int 917628 486)), (917629, (.int 917629 487))] 98 { mask := 511, place := #[1, 32, 33, 34, 35, 36, 37, 38, 39, 40, 41, 42, 43, 44, 45, 46, 47, 48, 49, 50, 51, 52, 53, 54, 55, 56, 57, 58, 59, 60, 61, 62, 63, 64, 65, 66, 67, 68, 69, 70, 71, 72, 73, 74, 75, 76, 77, 78, 79, 80, 81, 82, 83, 84, 85, 86, 87, 88, 89, 90, 91, 92, 93, 94, 95, 96, 97, 98, 99, 100, 101, 102, 103, 104, 105, 106, 107, 108, 109, 110, 111, 112, 113, 114, 115, 116, 117, 118, 119, 120, 121, 122, 123, 124, 125], dummies := #[], finger := 0, led := !P.followText "set-order", moves := 3, plain := true }, slots := #[] }
noncomputable def x157v95 (P : Params) : Obj := { cls := (.type "list_iterator"), dict := none, data := .fields #[(.ref 155), (.int 95 0)], slots := #[] }
noncomputable def x156v96 (P : Params) : Obj := { cls := (.type "set"), dict := none, data := .set #[(917505, (.int 917505 388)), (917536, (.int 917536 394)), (917537, (.int 917537 395)), (917538, (.int 917538 396)), (917539, (.int 917539 397)), (917540, (.int 917540 398)), (917541, (.int 917541 399)), (917542, (.int 917542 400)), (917543, (.int 917543 401)), (917544, (.int 917544 402)), (917545, (.int 917545 403)), (917546, (.int 917546 404)), (917547, (.int 917547 405)), (917548, (.int 917548 406)), (917549, (.int 917549 407)), (917550, (.int 917550 408)), (917551, (.int 917551 409)), (917552, (.int 917552 410)), (917553, (.int 917553 411)), (917554, (.int 917554 412)), (917555, (.int 917555 413)), (917556, (.int 917556 414)), (917557, (.int 917557 415)), (917558, (.int 917558 416)), (917559, (.int 917559 417)), (917560, (.int 917560 418)), (917561, (.int 917561 419)), (917562, (.int 917562 420)), (917563, (.int 917563 421)), (917564, (.int 917564 422)), (917565, (.int 917565 423)), (917566, (.int 917566 424)), (917567, (.int 917567 425)), (917568, (.int 917568 426)), (917569, (.int 917569 427)), (917570, (.int 917570 428)), (917571, (.int 917571 429)), (917572, (.int 917572 430)), (917573, (.int 917573 431)), (917574, (.int 917574 432)), (917575, (.int 917575 433)), (917576, (.int 917576 434)), (917577, (.int 917577 435)), (917578, (.int 917578 436)), (917579, (.int 917579 437)), (917580, (.int 917580 438)), (917581, (.int 917581 439)), (917582, (.int 917582 440)), (917583, (.int 917583 441)), (917584, (.int 917584 442)), (917585, (.int 917585 443)), (917586, (.int 917586 444)), (917587, (.int 917587 445)), (917588, (.int 917588 446)), (917589, (.int 917589 447)), (917590, (.int 917590 448)), (917591, (.int 917591 449)), (917592, (.int 917592 450)), (917593, (.int 917593 451)), (917594, (.int 917594 452)), (917595, (.int 917595 453)), (917596, (.int 917596 454)), (917597, (.int 917597 455)), (917598, (.int 917598 456)), (917599, (.int 917599 457)), (917600, (.int 917600 458)), (917601, (.int 917601 459)), (917602, (.int 917602 460)), (917603, (.int 917603 461)), (917604, (.int 917604 462)), (917605, (.int 917605 463)), (917606, (.int 917606 464)), (917607, (.int 917607 465)), (917608, (.int 917608 466)), (917609, (.int 917609 467)), (917610, (.int 917610 468)), (917611, (.int 917611 469)), (917612, (.int 917612 470)), (917613, (.int 917613 471)), (917614, (.int 917614 472)), (917615, (.int 917615 473)), (917616, (.int 917616 474)), (917617, (.int 917617 475)), (917618, (.int 917618 476)), (917619, (.int 917619 477)), (917620, (.int 917620 478)), (917621, (.int 917621 479)), (917622, (.int 917622 480)), (917623, (.int 917623 481)), (917624, (.int 917624 482)), (917625, (.int 917625 483)), (917626, (.int 917626 484)), (917627, (.int 917627 485)), (917628, (.int 917628 486)), (917629, (.int 917629 487)), (917630, (.int 917630 488))] 99 { mask := 511, place := #[1, 32, 33, 34, 35, 36, 37, 38, 39, 40, 41, 42, 43, 44, 45, 46, 47, 48, 49, 50, 51, 52, 53, 54, 55, 56, 57, 58, 59, 60, 61, 62, 63, 64, 65, 66, 67, 68, 69, 70, 71, 72, 73, 74, 75, 76, 77, 78, 79, 80, 81, 82, 83, 84, 85, 86, 87, 88, 89, 90, 91, 92, 93, 94, 95, 96, 97, 98, 99, 100, 101, 102, 103, 104, 105, 106, 107, 108, 109, 110, 111, 112, 113, 114, 115, 116, 117, 118, 119, 120, 121, 122, 123, 124, 125, 126], dummies := #[], finger := 0, led := !P.followText "set-order", moves := 3, plain := true }, slots := #[] }
noncomputable def x157v96 (P : Params) : Obj := { cls := (.type "list_iterator"), dict := none, data := .fields #[(.ref 155), (.int 96 0)], slots := #[] }
noncomputable def x156v97 (P : Params) : Obj := { cls := (.type "set"), dict := none, data := .set #[(917505, (.int 917505 388)), (917536, (.int 917536 394)), (917537, (.int 917537 395)), (917538, (.int 917538 396)), (917539, (.int 917539 397)), (917540, (.int 917540 398)), (917541, (.int 917541 399)), (917542, (.int 917542 400)), (917543, (.int 917543 401)), (917544, (.int 917544 402)), (917545, (.int 917545 403)), (917546, (.int 917546 404)), (917547, (.int 917547 405)), (917548, (.int 917548 406)), (917549, (.int 917549 407)), (917550, (.int 917550 408)), (917551, (.int 917551 409)), (917552, (.int 917552 410)), (917553, (.int 917553 411)), (917554, (.int 917554 412)), (917555, (.int 917555 413)), (917556, (.int 917556 414)), (917557, (.int 917557 415)), (917558, (.int 917558 416)), (917559, (.int 917559 417)), (917560, (.int 917560 418)), (917561, (.int 917561 419)), (917562, (.int 917562 420)), (917563, (.int 917563 421)), (917564, (.int 917564 422)), (917565, (.int 917565 423)), (917566, (.int 917566 424)), (917567, (.int 917567 425)), (917568, (.int 917568 426)), (917569, (.int 917569 427)), (917570, (.int 917570 428)), (917571, (.int 917571 429)), (917572, (.int 917572 430)), (917573, (.int 917573 431)), (917574, (.int 917574 432)), (917575, (.int 917575 433)), (917576, (.int 917576 434)), (917577, (.int 917577 435)), (917578, (.int 917578 436)), (917579, (.int 917579 437)), (917580, (.int 917580 438)), (917581, (.int 917581 439)), (917582, (.int 917582 440)), (917583, (.int 917583 441)), (917584, (.int 917584 442)), (917585, (.int 917585 443)), (917586, (.int 917586 444)), (917587, (.int 917587 445)), (917588, (.int 917588 446)), (917589, (.int 917589 447)), (917590, (.int 917590 448)), (917591, (.int 917591 449)), (917592, (.int 917592 450)), (917593, (.int 917593 451)), (917594, (.int 917594 452)), (917595, (.int 917595 453)), (917596, (.int 917596 454)), (917597, (.int 917597 455)), (917598, (.int 917598 456)), (917599, (.int 917599 457)), (917600, (.int 917600 458)), (917601, (.int 917601 459)), (917602, (.int 917602 460)), (917603, (.int 917603 461)), (917604, (.int 917604 462)), (917605, (.int 917605 463)), (917606, (.int 917606 464)), (917607, (.int 917607 465)), (917608, (.int 917608 466)), (917609, (.int 917609 467)), (917610, (.int 917610 468)), (917611, (.int 917611 469)), (917612, (.int 917612 470)), (917613, (.int 917613 471)), (917614, (.int 917614 472)), (917615, (.int 917615 473)), (917616, (.int 917616 474)), (917617, (.int 917617 475)), (917618, (.int 917618 476)), (917619, (.int 917619 477)), (917620, (.int 917620 478)), (917621, (.int 917621 479)), (917622, (.int 917622 480)), (917623, (.int 917623 481)), (917624, (.int 917624 482)), (917625, (.int 917625 483)), (917626, (.int 917626 484)), (917627, (.int 917627 485)), (917628, (.int 917628 486)), (917629, (.int 917629 487)), (917630, (.int 917630 488)), (917631, (.int 917631 489))] 100 { mask := 511, place := #[1, 32, 33, 34, 35, 36, 37, 38, 39, 40, 41, 42, 43, 44, 45, 46, 47, 48, 49, 50, 51, 52, 53, 54, 55, 56, 57, 58, 59, 60, 61, 62, 63, 64, 65, 66, 67, 68, 69, 70, 71, 72, 73, 74, 75, 76, 77, 78, 79, 80, 81, 82, 83, 84, 85, 86, 87, 88, 89, 90, 91, 92, 93, 94, 95, 96, 97, 98, 99, 100, 101, 102, 103, 104, 105, 106, 107, 108, 109, 110, 111, 112, 113, 114, 115, 116, 117, 118, 119, 120, 121, 122, 123, 124, 125, 126, 127], dummies := #[], finger := 0, led := !P.followText "set-order", moves := 3, plain := true }, slots := #[] }
noncomputable def x157v97 (P : Params) : Obj := { cls := (.type "list_iterator"), dict := none, data := .fields #[(.ref 155), (.int 97 0)], slots := #[] }
noncomputable def x3v8 (P : Params) : Obj := { cls := (.type "dict"), dict := none, data := .dict #[⟨PyData.keyHash P (Str.ofString "__name__"), (.str (Str.ofString "__name__") 165), (.str (Str.ofString "cpy313.stringprep") 303)⟩, ⟨PyData.keyHash P (Str.ofString "__doc__"), (.str (Str.ofString "__doc__") 166), .none⟩, ⟨PyData.keyHash P (Str.ofString "__package__"), (.str (Str.ofString "__package__") 167), .none⟩, ⟨PyData.keyHash P (Str.ofString "__loader__"), (.str (Str.ofString "__loader__") 168), (.builtin "__main__.__loader__#opaque")⟩, ⟨PyData.keyHash P (Str.ofString "__spec__"), (.str (Str.ofString "__spec__") 169), .none⟩, ⟨PyData.keyHash P (Str.ofString "__annotations__"), (.str (Str.ofString "__annotations__") 170), (.ref 6)⟩, ⟨PyData.keyHash P (Str.ofString "__builtins__"), (.str (Str.ofString "__builtins__") 171), (.ref 4)⟩, ⟨PyData.keyHash P (Str.ofString "__file__"), (.str (Str.ofString "__file__") 173), (.str (Str.ofString "/claim/cut.py") 172)⟩, ⟨PyData.keyHash P (Str.ofString "__cached__"), (.str (Str.ofString "__cached__") 174), .none⟩, ⟨PyData.keyHash P (Str.ofString "_wall"), (.str (Str.ofString "_wall") 193), (.ref 21)⟩, ⟨PyData.keyHash P (Str.ofString "EMPTYSTRING"), (.str (Str.ofString "EMPTYSTRING") 197), (.str (Str.ofString "") 196)⟩, ⟨PyData.keyHash P (Str.ofString "_Accumulator"), (.str (Str.ofString "_Accumulator") 292), (.ref 101)⟩, ⟨PyData.keyHash P (Str.ofString "_strcoll"), (.str (Str.ofString "_strcoll") 302), (.ref 112)⟩, ⟨PyData.keyHash P (Str.ofString "c7_set"), (.str (Str.ofString "c7_set") 332), (.ref 114)⟩, ⟨PyData.keyHash P (Str.ofString "in_table_c7"), (.str (Str.ofString "in_table_c7") 339), (.ref 124)⟩, ⟨PyData.keyHash P (Str.ofString "c8_set"), (.str (Str.ofString "c8_set") 380), (.ref 138)⟩, ⟨PyData.keyHash P (Str.ofString "in_table_c8"), (.str (Str.ofString "in_table_c8") 387), (.ref 148)⟩, ⟨PyData.keyHash P (Str.ofString "c9_set"), (.str (Str.ofString "c9_set") 587), (.ref 156)⟩] 18, slots := #[] }
noncomputable def x157v98 (P : Params) : Obj := { cls := (.type "list_iterator"), dict := none, data := .fields #[.none, (.int 97 0)], slots := #[] }
noncomputable def x158v0 (P : Params) : Obj := { cls := (.type "tuple"), dict := none, data := .seq #[] 0, slots := #[] }
noncomputable def x159v0 (P : Params) : Obj := { cls := (.type "StopIteration"), dict := none, data := .fields #[(.ref 158), .none, .none, .none, (.bool false), .none], slots := #[] }
noncomputable def x3v9 (P : Params) : Obj := { cls := (.type "dict"), dict := none, data := .dict #[⟨PyData.keyHash P (Str.ofString "__name__"), (.str (Str.ofString "__name__") 165), (.str (Str.ofString "law_xn0003_01") 595)⟩, ⟨PyData.keyHash P (Str.ofString "__doc__"), (.str (Str.ofString "__doc__") 166), .none⟩, ⟨PyData.keyHash P (Str.ofString "__package__"), (.str (Str.ofString "__package__") 167), .none⟩, ⟨PyData.keyHash P (Str.ofString "__loader__"), (.str (Str.ofString "__loader__") 168), (.builtin "__main__.__loader__#opaque")⟩, ⟨PyData.keyHash P (Str.ofString "__spec__"), (.str (Str.ofString "__spec__") 169), .none⟩, ⟨PyData.keyHash P (Str.ofString "__annotations__"), (.str (Str.ofString "__annotations__") 170), (.ref 6)⟩, ⟨PyData.keyHash P (Str.ofString "__builtins__"), (.str (Str.ofString "__builtins__") 171), (.ref 4)⟩, ⟨PyData.keyHash P (Str.ofString "__file__"), (.str (Str.ofString "__file__") 173), (.str (Str.ofString "/claim/cut.py") 172)⟩, ⟨PyData.keyHash P (Str.ofString "__cached__"), (.str (Str.ofString "__cached__") 174), .none⟩, ⟨PyData.keyHash P (Str.ofString "_wall"), (.str (Str.ofString "_wall") 193), (.ref 21)⟩, ⟨PyData.keyHash P (Str.ofString "EMPTYSTRING"), (.str (Str.ofString "EMPTYSTRING") 197), (.str (Str.ofString "") 196)⟩, ⟨PyData.keyHash P (Str.ofString "_Accumulator"), (.str (Str.ofString "_Accumulator") 292), (.ref 101)⟩, ⟨PyData.keyHash P (Str.ofString "_strcoll"), (.str (Str.ofString "_strcoll") 302), (.ref 112)⟩, ⟨PyData.keyHash P (Str.ofString "c7_set"), (.str (Str.ofString "c7_set") 332), (.ref 114)⟩, ⟨PyData.keyHash P (Str.ofString "in_table_c7"), (.str (Str.ofString "in_table_c7") 339), (.ref 124)⟩, ⟨PyData.keyHash P (Str.ofString "c8_set"), (.str (Str.ofString "c8_set") 380), (.ref 138)⟩, ⟨PyData.keyHash P (Str.ofString "in_table_c8"), (.str (Str.ofString "in_table_c8") 387), (.ref 148)⟩, ⟨PyData.keyHash P (Str.ofString "c9_set"), (.str (Str.ofString "c9_set") 587), (.ref 156)⟩, ⟨PyData.keyHash P (Str.ofString "in_table_c9"), (.str (Str.ofString "in_table_c9") 594), (.ref 166)⟩, ⟨PyData.keyHash P (Str.ofString "_law_typed"), (.str (Str.ofString "_law_typed") 611), (.ref 173)⟩, ⟨PyData.keyHash P (Str.ofString "_law_read"), (.str (Str.ofString "_law_read") 621), (.ref 180)⟩, ⟨PyData.keyHash P (Str.ofString "_law_pieces"), (.str (Str.ofString "_law_pieces") 635), (.ref 187)⟩, ⟨PyData.keyHash P (Str.ofString "_law_repetitions"), (.str (Str.ofString "_law_repetitions") 641), (.ref 192)⟩, ⟨PyData.keyHash P (Str.ofString "_law_ends"), (.str (Str.ofString "_law_ends") 651), (.ref 199)⟩, ⟨PyData.keyHash P (Str.ofString "law"), (.str (Str.ofString "law") 657), (.ref 204)⟩] 25, slots := #[] }
noncomputable def x12v6 (P : Params) : Obj := { cls := .none, dict := none, data := .fields #[(.int 1 0), (.int 0 0), (.ref 20), (.int 6 0), (.int 0 0), (.ref 28), (.int 38 0), (.int 0 0), (.ref 111), (.int 42 0), (.int 0 0), (.ref 123), (.int 45 0), (.int 0 0), (.ref 147), (.int 48 0), (.int 0 0), (.ref 165), (.int 51 0), (.int 0 0), (.ref 172), (.int 72 0), (.int 0 0), (.ref 179), (.int 82 0), (.int 0 0), (.ref 186), (.int 97 0), (.int 0 0), (.ref 191), (.int 108 0), (.int 0 0), (.ref 198), (.int 114 0), (.int 0 0), (.ref 203)], slots := #[] }
noncomputable def x160v0 (P : Params) : Obj := { cls := (.type "tuple"), dict := none, data := .seq #[] 0, slots := #[] }
noncomputable def x161v0 (P : Params) : Obj := { cls := .none, dict := none, data := .fields #[], slots := #[] }
noncomputable def x162v0 (P : Params) : Obj := { cls := (.type "tuple"), dict := none, data := .seq #[(.str (Str.ofString "code") 591)] 0, slots := #[] }
noncomputable def x163v0 (P : Params) : Obj := { cls := (.type "tuple"), dict := none, data := .seq #[] 0, slots := #[] }
noncomputable def x164v0 (P : Params) : Obj := { cls := .none, dict := none, data := .func { name := (Str.ofString "in_table_c9"), qualname := (Str.ofString "in_table_c9"), params := fnP (stm 12), body := .stmts (fnB (stm 12)), scope := fnS (stm 12), globals := 0, closure := [], defaults := .none, kwdefaults := .none, doc := .none, pyModule := .none, annotations := none, code := .none, closureTuple := .none, builtins := 0 }, slots := #[] }
noncomputable def x165v0 (P : Params) : Obj := { cls := (.type "code"), dict := none, data := .fields #[(.str (Str.ofString "in_table_c9") 588), (.str (Str.ofString "in_table_c9") 589), (.str (Str.ofString "/claim/cut.py") 590), (.int 48 0), (.int 1 0), (.int 0 0), (.int 0 0), (.int 3 0), (.ref 160), (.bool true), (.int 181 0), (.ref 161), .none, (.ref 162), (.ref 163), (.ref 164), (.int 592 0), (.int 48 0), (.str (Str.ofString "/claim/cut.py") 593)], slots := #[] }
noncomputable def x166v0 (P : Params) : Obj := { cls := (.type "function"), dict := none, data := .func { name := (Str.ofString "in_table_c9"), qualname := (Str.ofString "in_table_c9"), params := fnP (stm 12), body := .stmts (fnB (stm 12)), scope := fnS (stm 12), globals := 3, closure := [], defaults := .none, kwdefaults := .none, doc := .none, pyModule := (.str (Str.ofString "cpy313.stringprep") 303), annotations := none, code := (.ref 165), closureTuple := .none, builtins := 0 }, slots := #[] }
noncomputable def x167v0 (P : Params) : Obj := { cls := (.type "tuple"), dict := none, data := .seq #[] 0, slots := #[] }
noncomputable def x168v0 (P : Params) : Obj := { cls := .none, dict := none, data := .fields #[], slots := #[] }
noncomputable def x169v0 (P : Params) : Obj := { cls := (.type "tuple"), dict := none, data := .seq #[(.str (Str.ofString "script") 600), (.str (Str.ofString "marks") 601), (.str (Str.ofString "beside") 602), (.str (Str.ofString "kinds") 603), (.str (Str.ofString "typed") 604), (.str (Str.ofString "x") 605), (.str (Str.ofString "kind") 606), (.str (Str.ofString "which") 607), (.str (Str.ofString "ahead") 608)] 0, slots := #[] }
noncomputable def x170v0 (P : Params) : Obj := { cls := (.type "tuple"), dict := none, data := .seq #[] 0, slots := #[] }
noncomputable def x171v0 (P : Params) : Obj := { cls := .none, dict := none, data := .func { name := (Str.ofString "_law_typed"), qualname := (Str.ofString "_law_typed"), params := fnP (stm 14), body := .stmts (fnB (stm 14)), scope := fnS (stm 14), globals := 0, closure := [], defaults := .none, kwdefaults := .none, doc := .none, pyModule := .none, annotations := none, code := .none, closureTuple := .none, builtins := 0 }, slots := #[] }
noncomputable def x172v0 (P : Params) : Obj := { cls := (.type "code"), dict := none, data := .fields #[(.str (Str.ofString "_law_typed") 597), (.str (Str.ofString "_law_typed") 598), (.str (Str.ofString "/claim/cut.py") 599), (.int 51 0), (.int 1 0), (.int 0 0), (.int 0 0), (.int 3 0), (.ref 167), (.bool true), (.int 181 0), (.ref 168), .none, (.ref 169), (.ref 170), (.ref 171), (.int 609 0), (.int 51 0), (.str (Str.ofString "/claim/cut.py") 610)], slots := #[] }
noncomputable def x173v0 (P : Params) : Obj := { cls := (.type "function"), dict := none, data := .func { name := (Str.ofString "_law_typed"), qualname := (Str.ofString "_law_typed"), params := fnP (stm 14), body := .stmts (fnB (stm 14)), scope := fnS (stm 14), globals := 3, closure := [], defaults := .none, kwdefaults := .none, doc := .none, pyModule := (.str (Str.ofString "law_xn0003_01") 595), annotations := none, code := (.ref 172), closureTuple := .none, builtins := 0 }, slots := #[] }
noncomputable def x174v0 (P : Params) : Obj := { cls := (.type "tuple"), dict := none, data := .seq #[] 0, slots := #[] }
noncomputable def x175v0 (P : Params) : Obj := { cls := .none, dict := none, data := .fields #[], slots := #[] }
noncomputable def x176v0 (P : Params) : Obj := { cls := (.type "tuple"), dict := none, data := .seq #[(.str (Str.ofString "typed") 615), (.str (Str.ofString "letters") 616), (.str (Str.ofString "word") 617), (.str (Str.ofString "sign") 618)] 0, slots := #[] }
noncomputable def x177v0 (P : Params) : Obj := { cls := (.type "tuple"), dict := none, data := .seq #[] 0, slots := #[] }
noncomputable def x178v0 (P : Params) : Obj := { cls := .none, dict := none, data := .func { name := (Str.ofString "_law_read"), qualname := (Str.ofString "_law_read"), params := fnP (stm 15), body := .stmts (fnB (stm 15)), scope := fnS (stm 15), globals := 0, closure := [], defaults := .none, kwdefaults := .none, doc := .none, pyModule := .none, annotations := none, code := .none, closureTuple := .none, builtins := 0 }, slots := #[] }
noncomputable def x179v0 (P : Params) : Obj := { cls := (.type "code"), dict := none, data := .fields #[(.str (Str.ofString "_law_read") 612), (.str (Str.ofString "_law_read") 613), (.str (Str.ofString "/claim/cut.py") 614), (.int 72 0), (.int 2 0), (.int 0 0), (.int 0 0), (.int 3 0), (.ref 174), (.bool true), (.int 181 0), (.ref 175), .none, (.ref 176), (.ref 177), (.ref 178), (.int 619 0), (.int 72 0), (.str (Str.ofString "/claim/cut.py") 620)], slots := #[] }
noncomputable def x180v0 (P : Params) : Obj := { cls := (.type "function"), dict := none, data := .func { name := (Str.ofString "_law_read"), qualname := (Str.ofString "_law_read"), params := fnP (stm 15), body := .stmts (fnB (stm 15)), scope := fnS (stm 15), globals := 3, closure := [], defaults := .none, kwdefaults := .none, doc := .none, pyModule := (.str (Str.ofString "law_xn0003_01") 595), annotations := none, code := (.ref 179), closureTuple := .none, builtins := 0 }, slots := #[] }
noncomputable def x181v0 (P : Params) : Obj := { cls := (.type "tuple"), dict := none, data := .seq #[] 0, slots := #[] }
noncomputable def x182v0 (P : Params) : Obj := { cls := .none, dict := none, data := .fields #[], slots := #[] }
noncomputable def x183v0 (P : Params) : Obj := { cls := (.type "tuple"), dict := none, data := .seq #[(.str (Str.ofString "word") 625), (.str (Str.ofString "pile") 626), (.str (Str.ofString "pieces") 627), (.str (Str.ofString "letter") 628), (.str (Str.ofString "fore") 629), (.str (Str.ofString "hind") 630), (.str (Str.ofString "front") 631), (.str (Str.ofString "back") 632)] 0, slots := #[] }
noncomputable def x184v0 (P : Params) : Obj := { cls := (.type "tuple"), dict := none, data := .seq #[] 0, slots := #[] }
noncomputable def x185v0 (P : Params) : Obj := { cls := .none, dict := none, data := .func { name := (Str.ofString "_law_pieces"), qualname := (Str.ofString "_law_pieces"), params := fnP (stm 16), body := .stmts (fnB (stm 16)), scope := fnS (stm 16), globals := 0, closure := [], defaults := .none, kwdefaults := .none, doc := .none, pyModule := .none, annotations := none, code := .none, closureTuple := .none, builtins := 0 }, slots := #[] }
noncomputable def x186v0 (P : Params) : Obj := { cls := (.type "code"), dict := none, data := .fields #[(.str (Str.ofString "_law_pieces") 622), (.str (Str.ofString "_law_pieces") 623), (.str (Str.ofString "/claim/cut.py") 624), (.int 82 0), (.int 1 0), (.int 0 0), (.int 0 0), (.int 3 0), (.ref 181), (.bool true), (.int 181 0), (.ref 182), .none, (.ref 183), (.ref 184), (.ref 185), (.int 633 0), (.int 82 0), (.str (Str.ofString "/claim/cut.py") 634)], slots := #[] }
noncomputable def x187v0 (P : Params) : Obj := { cls := (.type "function"), dict := none, data := .func { name := (Str.ofString "_law_pieces"), qualname := (Str.ofString "_law_pieces"), params := fnP (stm 16), body := .stmts (fnB (stm 16)), scope := fnS (stm 16), globals := 3, closure := [], defaults := .none, kwdefaults := .none, doc := .none, pyModule := (.str (Str.ofString "law_xn0003_01") 595), annotations := none, code := (.ref 186), closureTuple := .none, builtins := 0 }, slots := #[] }
noncomputable def x188v0 (P : Params) : Obj := { cls := (.type "tuple"), dict := none, data := .seq #[] 0, slots := #[] }
noncomputable def x189v0 (P : Params) : Obj := { cls := .none, dict := none, data := .fields #[], slots := #[] }
noncomputable def x190v0 (P : Params) : Obj := { cls := .none, dict := none, data := .func { name := (Str.ofString "_law_repetitions"), qualname := (Str.ofString "_law_repetitions"), params := fnP (stm 17), body := .stmts (fnB (stm 17)), scope := fnS (stm 17), globals := 0, closure := [], defaults := .none, kwdefaults := .none, doc := .none, pyModule := .none, annotations := none, code := .none, closureTuple := .none, builtins := 0 }, slots := #[] }
noncomputable def x191v0 (P : Params) : Obj := { cls := (.type "code"), dict := none, data := .fields #[(.str (Str.ofString "_law_repetitions") 636), (.str (Str.ofString "_law_repetitions") 637), (.str (Str.ofString "/claim/cut.py") 638), (.int 97 0), (.int 1 0), (.int 0 0), (.int 0 0), (.int 3 0), (.ref 188), (.bool true), (.int 181 0), (.ref 189), .none, .none, .none, (.ref 190), (.int 639 0), (.int 97 0), (.str (Str.ofString "/claim/cut.py") 640)], slots := #[] }
noncomputable def x192v0 (P : Params) : Obj := { cls := (.type "function"), dict := none, data := .func { name := (Str.ofString "_law_repetitions"), qualname := (Str.ofString "_law_repetitions"), params := fnP (stm 17), body := .stmts (fnB (stm 17)), scope := fnS (stm 17), globals := 3, closure := [], defaults := .none, kwdefaults := .none, doc := .none, pyModule := (.str (Str.ofString "law_xn0003_01") 595), annotations := none, code := (.ref 191), closureTuple := .none, builtins := 0 }, slots := #[] }
noncomputable def x193v0 (P : Params) : Obj := { cls := (.type "tuple"), dict := none, data := .seq #[] 0, slots := #[] }
noncomputable def x194v0 (P : Params) : Obj := { cls := .none, dict := none, data := .fields #[], slots := #[] }
noncomputable def x195v0 (P : Params) : Obj := { cls := (.type "tuple"), dict := none, data := .seq #[(.str (Str.ofString "word") 645), (.str (Str.ofString "start") 646), (.str (Str.ofString "end") 647), (.str (Str.ofString "size") 648)] 0, slots := #[] }
noncomputable def x196v0 (P : Params) : Obj := { cls := (.type "tuple"), dict := none, data := .seq #[] 0, slots := #[] }
noncomputable def x197v0 (P : Params) : Obj := { cls := .none, dict := none, data := .func { name := (Str.ofString "_law_ends"), qualname := (Str.ofString "_law_ends"), params := fnP (stm 18), body := .stmts (fnB (stm 18)), scope := fnS (stm 18), globals := 0, closure := [], defaults := .none, kwdefaults := .none, doc := .none, pyModule := .none, annotations := none, code := .none, closureTuple := .none, builtins := 0 }, slots := #[] }
noncomputable def x198v0 (P : Params) : Obj := { cls := (.type "code"), dict := none, data := .fields #[(.str (Str.ofString "_law_ends") 642), (.str (Str.ofString "_law_ends") 643), (.str (Str.ofString "/claim/cut.py") 644), (.int 108 0), (.int 4 0), (.int 0 0), (.int 0 0), (.int 3 0), (.ref 193), (.bool true), (.int 181 0), (.ref 194), .none, (.ref 195), (.ref 196), (.ref 197), (.int 649 0), (.int 108 0), (.str (Str.ofString "/claim/cut.py") 650)], slots := #[] }
noncomputable def x199v0 (P : Params) : Obj := { cls := (.type "function"), dict := none, data := .func { name := (Str.ofString "_law_ends"), qualname := (Str.ofString "_law_ends"), params := fnP (stm 18), body := .stmts (fnB (stm 18)), scope := fnS (stm 18), globals := 3, closure := [], defaults := .none, kwdefaults := .none, doc := .none, pyModule := (.str (Str.ofString "law_xn0003_01") 595), annotations := none, code := (.ref 198), closureTuple := .none, builtins := 0 }, slots := #[] }
noncomputable def x200v0 (P : Params) : Obj := { cls := (.type "tuple"), dict := none, data := .seq #[] 0, slots := #[] }
noncomputable def x201v0 (P : Params) : Obj := { cls := .none, dict := none, data := .fields #[], slots := #[] }
noncomputable def x202v0 (P : Params) : Obj := { cls := .none, dict := none, data := .func { name := (Str.ofString "law"), qualname := (Str.ofString "law"), params := fnP (stm 19), body := .stmts (fnB (stm 19)), scope := fnS (stm 19), globals := 0, closure := [], defaults := .none, kwdefaults := .none, doc := .none, pyModule := .none, annotations := none, code := .none, closureTuple := .none, builtins := 0 }, slots := #[] }
noncomputable def x203v0 (P : Params) : Obj := { cls := (.type "code"), dict := none, data := .fields #[(.str (Str.ofString "law") 652), (.str (Str.ofString "law") 653), (.str (Str.ofString "/claim/cut.py") 654), (.int 114 0), (.int 1 0), (.int 0 0), (.int 0 0), (.int 3 0), (.ref 200), (.bool true), (.int 181 0), (.ref 201), .none, .none, .none, (.ref 202), (.int 655 0), (.int 114 0), (.str (Str.ofString "/claim/cut.py") 656)], slots := #[] }
noncomputable def x204v0 (P : Params) : Obj := { cls := (.type "function"), dict := none, data := .func { name := (Str.ofString "law"), qualname := (Str.ofString "law"), params := fnP (stm 19), body := .stmts (fnB (stm 19)), scope := fnS (stm 19), globals := 3, closure := [], defaults := .none, kwdefaults := .none, doc := .none, pyModule := (.str (Str.ofString "law_xn0003_01") 595), annotations := none, code := (.ref 203), closureTuple := .none, builtins := 0 }, slots := #[] }
noncomputable def fr0 : Pos := ⟨0, 0, 0, 0⟩
noncomputable def env0 : Env := { scope := pw.main.scope, locals := mainNs, globals := mainNs, cells := [], code := (.ref 13), frame := some 14 }
noncomputable def cE : Code := .body (behindTheImports pw) env0
noncomputable def Ha (P : Params) : Heap := ⟨#[(boot_o_0 P), (boot_o_1 P), (boot_o_2 P), (boot_o_3 P), (boot_o_4 P), (boot_o_5 P), (boot_o_6 P), (boot_o_7 P), (boot_o_8 P), (boot_o_9 P), (boot_o_10 P), (x11v0 P), (x12v0 P), (x13v0 P), (x14v0 P)], (boot_heap P).life⟩
noncomputable def T0 (P : Params) : BT := (.node (boot_o_0 P) (.node (boot_o_1 P) (.node (boot_o_3 P) (.node (boot_o_7 P) .nil .nil) (.node (x11v0 P) .nil .nil)) (.node (boot_o_5 P) (.node (boot_o_9 P) .nil .nil) (.node (x13v0 P) .nil .nil))) (.node (boot_o_2 P) (.node (boot_o_4 P) (.node (boot_o_8 P) .nil .nil) (.node (x12v0 P) .nil .nil)) (.node (boot_o_6 P) (.node (boot_o_10 P) .nil .nil) (.node (x14v0 P) .nil .nil))))
noncomputable def T3 (P : Params) : BT := (.node (boot_o_0 P) (.node (boot_o_1 P) (.node (x3v1 P) (.node (boot_o_7 P) (.node (x15v0 P) .nil .nil) .nil) (.node (x11v0 P) (.node (x19v0 P) .nil .nil) .nil)) (.node (boot_o_5 P) (.node (boot_o_9 P) (.node (x17v0 P) .nil .nil) .nil) (.node (x13v0 P) (.node (x21v0 P) .nil .nil) .nil))) (.node (boot_o_2 P) (.node (boot_o_4 P) (.node (boot_o_8 P) (.node (x16v0 P) .nil .nil) .nil) (.node (x12v1 P) (.node (x20v0 P) .nil .nil) .nil)) (.node (boot_o_6 P) (.node (boot_o_10 P) (.node (x18v0 P) .nil .nil) .nil) (.node (x14v0 P) .nil .nil))))
noncomputable def T4 (P : Params) : BT := (.node (boot_o_0 P) (.node (boot_o_1 P) (.node (x3v2 P) (.node (boot_o_7 P) (.node (x15v0 P) (.node (x31v0 P) (.node (x63v0 P) .nil .nil) (.node (x95v0 P) .nil .nil)) (.node (x47v0 P) (.node (x79v0 P) .nil .nil) .nil)) (.node (x23v0 P) (.node (x39v0 P) (.node (x71v0 P) .nil .nil) (.node (x103v0 P) .nil .nil)) (.node (x55v0 P) (.node (x87v0 P) .nil .nil) .nil))) (.node (x11v0 P) (.node (x19v0 P) (.node (x35v0 P) (.node (x67v0 P) .nil .nil) (.node (x99v0 P) .nil .nil)) (.node (x51v0 P) (.node (x83v0 P) .nil .nil) .nil)) (.node (x27v0 P) (.node (x43v0 P) (.node (x75v0 P) .nil .nil) .nil) (.node (x59v0 P) (.node (x91v0 P) .nil .nil) .nil)))) (.node (boot_o_5 P) (.node (boot_o_9 P) (.node (x17v0 P) (.node (x33v0 P) (.node (x65v0 P) .nil .nil) (.node (x97v0 P) .nil .nil)) (.node (x49v0 P) (.node (x81v0 P) .nil .nil) .nil)) (.node (x25v0 P) (.node (x41v0 P) (.node (x73v0 P) .nil .nil) (.node (x105v0 P) .nil .nil)) (.node (x57v0 P) (.node (x89v0 P) .nil .nil) .nil))) (.node (x13v0 P) (.node (x21v0 P) (.node (x37v0 P) (.node (x69v0 P) .nil .nil) (.node (x101v0 P) .nil .nil)) (.node (x53v0 P) (.node (x85v0 P) .nil .nil) .nil)) (.node (x29v0 P) (.node (x45v0 P) (.node (x77v0 P) .nil .nil) .nil) (.node (x61v0 P) (.node (x93v0 P) .nil .nil) .nil))))) (.node (boot_o_2 P) (.node (boot_o_4 P) (.node (boot_o_8 P) (.node (x16v0 P) (.node (x32v0 P) (.node (x64v0 P) .nil .nil) (.node (x96v0 P) .nil .nil)) (.node (x48v0 P) (.node (x80v0 P) .nil .nil) .nil)) (.node (x24v0 P) (.node (x40v0 P) (.node (x72v0 P) .nil .nil) (.node (x104v0 P) .nil .nil)) (.node (x56v0 P) (.node (x88v0 P) .nil .nil) .nil))) (.node (x12v2 P) (.node (x20v0 P) (.node (x36v0 P) (.node (x68v0 P) .nil .nil) (.node (x100v0 P) .nil .nil)) (.node (x52v0 P) (.node (x84v0 P) .nil .nil) .nil)) (.node (x28v0 P) (.node (x44v0 P) (.node (x76v0 P) .nil .nil) .nil) (.node (x60v0 P) (.node (x92v0 P) .nil .nil) .nil)))) (.node (boot_o_6 P) (.node (boot_o_10 P) (.node (x18v0 P) (.node (x34v0 P) (.node (x66v0 P) .nil .nil) (.node (x98v0 P) .nil .nil)) (.node (x50v0 P) (.node (x82v0 P) .nil .nil) .nil)) (.node (x26v0 P) (.node (x42v0 P) (.node (x74v0 P) .nil .nil) .nil) (.node (x58v0 P) (.node (x90v0 P) .nil .nil) .nil))) (.node (x14v0 P) (.node (x22v0 P) (.node (x38v0 P) (.node (x70v0 P) .nil .nil) (.node (x102v0 P) .nil .nil)) (.node (x54v0 P) (.node (x86v0 P) .nil .nil) .nil)) (.node (x30v0 P) (.node (x46v0 P) (.node (x78v0 P) .nil .nil) .nil) (.node (x62v0 P) (.node (x94v0 P) .nil .nil) .nil))))))
noncomputable def T7 (P : Params) : BT := (.node (boot_o_0 P) (.node (boot_o_1 P) (.node (x3v3 P) (.node (boot_o_7 P) (.node (x15v0 P) (.node (x31v0 P) (.node (x63v0 P) .nil .nil) (.node (x95v0 P) .nil .nil)) (.node (x47v0 P) (.node (x79v0 P) .nil .nil) (.node (x111v0 P) .nil .nil))) (.node (x23v0 P) (.node (x39v0 P) (.node (x71v0 P) .nil .nil) (.node (x103v0 P) .nil .nil)) (.node (x55v0 P) (.node (x87v0 P) .nil .nil) .nil))) (.node (x11v0 P) (.node (x19v0 P) (.node (x35v0 P) (.node (x67v0 P) .nil .nil) (.node (x99v0 P) .nil .nil)) (.node (x51v0 P) (.node (x83v0 P) .nil .nil) .nil)) (.node (x27v0 P) (.node (x43v0 P) (.node (x75v0 P) .nil .nil) (.node (x107v0 P) .nil .nil)) (.node (x59v0 P) (.node (x91v0 P) .nil .nil) .nil)))) (.node (boot_o_5 P) (.node (boot_o_9 P) (.node (x17v0 P) (.node (x33v0 P) (.node (x65v0 P) .nil .nil) (.node (x97v0 P) .nil .nil)) (.node (x49v0 P) (.node (x81v0 P) .nil .nil) .nil)) (.node (x25v0 P) (.node (x41v0 P) (.node (x73v0 P) .nil .nil) (.node (x105v0 P) .nil .nil)) (.node (x57v0 P) (.node (x89v0 P) .nil .nil) .nil))) (.node (x13v0 P) (.node (x21v0 P) (.node (x37v0 P) (.node (x69v0 P) .nil .nil) (.node (x101v0 P) .nil .nil)) (.node (x53v0 P) (.node (x85v0 P) .nil .nil) .nil)) (.node (x29v0 P) (.node (x45v0 P) (.node (x77v0 P) .nil .nil) (.node (x109v0 P) .nil .nil)) (.node (x61v0 P) (.node (x93v0 P) .nil .nil) .nil))))) (.node (boot_o_2 P) (.node (boot_o_4 P) (.node (boot_o_8 P) (.node (x16v0 P) (.node (x32v0 P) (.node (x64v0 P) .nil .nil) (.node (x96v0 P) .nil .nil)) (.node (x48v0 P) (.node (x80v0 P) .nil .nil) (.node (x112v0 P) .nil .nil))) (.node (x24v0 P) (.node (x40v0 P) (.node (x72v0 P) .nil .nil) (.node (x104v0 P) .nil .nil)) (.node (x56v0 P) (.node (x88v0 P) .nil .nil) .nil))) (.node (x12v3 P) (.node (x20v0 P) (.node (x36v0 P) (.node (x68v0 P) .nil .nil) (.node (x100v0 P) .nil .nil)) (.node (x52v0 P) (.node (x84v0 P) .nil .nil) .nil)) (.node (x28v0 P) (.node (x44v0 P) (.node (x76v0 P) .nil .nil) (.node (x108v0 P) .nil .nil)) (.node (x60v0 P) (.node (x92v0 P) .nil .nil) .nil)))) (.node (boot_o_6 P) (.node (boot_o_10 P) (.node (x18v0 P) (.node (x34v0 P) (.node (x66v0 P) .nil .nil) (.node (x98v0 P) .nil .nil)) (.node (x50v0 P) (.node (x82v0 P) .nil .nil) .nil)) (.node (x26v0 P) (.node (x42v0 P) (.node (x74v0 P) .nil .nil) (.node (x106v0 P) .nil .nil)) (.node (x58v0 P) (.node (x90v0 P) .nil .nil) .nil))) (.node (x14v0 P) (.node (x22v0 P) (.node (x38v0 P) (.node (x70v0 P) .nil .nil) (.node (x102v0 P) .nil .nil)) (.node (x54v0 P) (.node (x86v0 P) .nil .nil) .nil)) (.node (x30v0 P) (.node (x46v0 P) (.node (x78v0 P) .nil .nil) (.node (x110v0 P) .nil .nil)) (.node (x62v0 P) (.node (x94v0 P) .nil .nil) .nil))))))
noncomputable def T8 (P : Params) : BT := (.node (boot_o_0 P) (.node (boot_o_1 P) (.node (x3v4 P) (.node (boot_o_7 P) (.node (x15v0 P) (.node (x31v0 P) (.node (x63v0 P) .nil .nil) (.node (x95v0 P) .nil .nil)) (.node (x47v0 P) (.node (x79v0 P) .nil .nil) (.node (x111v0 P) .nil .nil))) (.node (x23v0 P) (.node (x39v0 P) (.node (x71v0 P) .nil .nil) (.node (x103v0 P) .nil .nil)) (.node (x55v0 P) (.node (x87v0 P) .nil .nil) .nil))) (.node (x11v0 P) (.node (x19v0 P) (.node (x35v0 P) (.node (x67v0 P) .nil .nil) (.node (x99v0 P) .nil .nil)) (.node (x51v0 P) (.node (x83v0 P) .nil .nil) (.node (x115v0 P) .nil .nil))) (.node (x27v0 P) (.node (x43v0 P) (.node (x75v0 P) .nil .nil) (.node (x107v0 P) .nil .nil)) (.node (x59v0 P) (.node (x91v0 P) .nil .nil) .nil)))) (.node (boot_o_5 P) (.node (boot_o_9 P) (.node (x17v0 P) (.node (x33v0 P) (.node (x65v0 P) .nil .nil) (.node (x97v0 P) .nil .nil)) (.node (x49v0 P) (.node (x81v0 P) .nil .nil) (.node (x113v0 P) .nil .nil))) (.node (x25v0 P) (.node (x41v0 P) (.node (x73v0 P) .nil .nil) (.node (x105v0 P) .nil .nil)) (.node (x57v0 P) (.node (x89v0 P) .nil .nil) .nil))) (.node (x13v0 P) (.node (x21v0 P) (.node (x37v0 P) (.node (x69v0 P) .nil .nil) (.node (x101v0 P) .nil .nil)) (.node (x53v0 P) (.node (x85v0 P) .nil .nil) (.node (x117v0 P) .nil .nil))) (.node (x29v0 P) (.node (x45v0 P) (.node (x77v0 P) .nil .nil) (.node (x109v0 P) .nil .nil)) (.node (x61v0 P) (.node (x93v0 P) .nil .nil) .nil))))) (.node (boot_o_2 P) (.node (boot_o_4 P) (.node (boot_o_8 P) (.node (x16v0 P) (.node (x32v0 P) (.node (x64v0 P) .nil .nil) (.node (x96v0 P) .nil .nil)) (.node (x48v0 P) (.node (x80v0 P) .nil .nil) (.node (x112v0 P) .nil .nil))) (.node (x24v0 P) (.node (x40v0 P) (.node (x72v0 P) .nil .nil) (.node (x104v0 P) .nil .nil)) (.node (x56v0 P) (.node (x88v0 P) .nil .nil) .nil))) (.node (x12v3 P) (.node (x20v0 P) (.node (x36v0 P) (.node (x68v0 P) .nil .nil) (.node (x100v0 P) .nil .nil)) (.node (x52v0 P) (.node (x84v0 P) .nil .nil) (.node (x116v0 P) .nil .nil))) (.node (x28v0 P) (.node (x44v0 P) (.node (x76v0 P) .nil .nil) (.node (x108v0 P) .nil .nil)) (.node (x60v0 P) (.node (x92v0 P) .nil .nil) .nil)))) (.node (boot_o_6 P) (.node (boot_o_10 P) (.node (x18v0 P) (.node (x34v0 P) (.node (x66v0 P) .nil .nil) (.node (x98v0 P) .nil .nil)) (.node (x50v0 P) (.node (x82v0 P) .nil .nil) (.node (x114v0 P) .nil .nil))) (.node (x26v0 P) (.node (x42v0 P) (.node (x74v0 P) .nil .nil) (.node (x106v0 P) .nil .nil)) (.node (x58v0 P) (.node (x90v0 P) .nil .nil) .nil))) (.node (x14v0 P) (.node (x22v0 P) (.node (x38v0 P) (.node (x70v0 P) .nil .nil) (.node (x102v0 P) .nil .nil)) (.node (x54v0 P) (.node (x86v0 P) .nil .nil) .nil)) (.node (x30v0 P) (.node (x46v0 P) (.node (x78v0 P) .nil .nil) (.node (x110v0 P) .nil .nil)) (.node (x62v0 P) (.node (x94v0 P) .nil .nil) .nil))))))
noncomputable def T9 (P : Params) : BT := (.node (boot_o_0 P) (.node (boot_o_1 P) (.node (x3v5 P) (.node (boot_o_7 P) (.node (x15v0 P) (.node (x31v0 P) (.node (x63v0 P) .nil .nil) (.node (x95v0 P) .nil .nil)) (.node (x47v0 P) (.node (x79v0 P) .nil .nil) (.node (x111v0 P) .nil .nil))) (.node (x23v0 P) (.node (x39v0 P) (.node (x71v0 P) .nil .nil) (.node (x103v0 P) .nil .nil)) (.node (x55v0 P) (.node (x87v0 P) .nil .nil) (.node (x119v0 P) .nil .nil)))) (.node (x11v0 P) (.node (x19v0 P) (.node (x35v0 P) (.node (x67v0 P) .nil .nil) (.node (x99v0 P) .nil .nil)) (.node (x51v0 P) (.node (x83v0 P) .nil .nil) (.node (x115v0 P) .nil .nil))) (.node (x27v0 P) (.node (x43v0 P) (.node (x75v0 P) .nil .nil) (.node (x107v0 P) .nil .nil)) (.node (x59v0 P) (.node (x91v0 P) .nil .nil) (.node (x123v0 P) .nil .nil))))) (.node (boot_o_5 P) (.node (boot_o_9 P) (.node (x17v0 P) (.node (x33v0 P) (.node (x65v0 P) .nil .nil) (.node (x97v0 P) .nil .nil)) (.node (x49v0 P) (.node (x81v0 P) .nil .nil) (.node (x113v0 P) .nil .nil))) (.node (x25v0 P) (.node (x41v0 P) (.node (x73v0 P) .nil .nil) (.node (x105v0 P) .nil .nil)) (.node (x57v0 P) (.node (x89v0 P) .nil .nil) (.node (x121v0 P) .nil .nil)))) (.node (x13v0 P) (.node (x21v0 P) (.node (x37v0 P) (.node (x69v0 P) .nil .nil) (.node (x101v0 P) .nil .nil)) (.node (x53v0 P) (.node (x85v0 P) .nil .nil) (.node (x117v0 P) .nil .nil))) (.node (x29v0 P) (.node (x45v0 P) (.node (x77v0 P) .nil .nil) (.node (x109v0 P) .nil .nil)) (.node (x61v0 P) (.node (x93v0 P) .nil .nil) .nil))))) (.node (boot_o_2 P) (.node (boot_o_4 P) (.node (boot_o_8 P) (.node (x16v0 P) (.node (x32v0 P) (.node (x64v0 P) .nil .nil) (.node (x96v0 P) .nil .nil)) (.node (x48v0 P) (.node (x80v0 P) .nil .nil) (.node (x112v0 P) .nil .nil))) (.node (x24v0 P) (.node (x40v0 P) (.node (x72v0 P) .nil .nil) (.node (x104v0 P) .nil .nil)) (.node (x56v0 P) (.node (x88v0 P) .nil .nil) (.node (x120v0 P) .nil .nil)))) (.node (x12v4 P) (.node (x20v0 P) (.node (x36v0 P) (.node (x68v0 P) .nil .nil) (.node (x100v0 P) .nil .nil)) (.node (x52v0 P) (.node (x84v0 P) .nil .nil) (.node (x116v0 P) .nil .nil))) (.node (x28v0 P) (.node (x44v0 P) (.node (x76v0 P) .nil .nil) (.node (x108v0 P) .nil .nil)) (.node (x60v0 P) (.node (x92v0 P) .nil .nil) (.node (x124v0 P) .nil .nil))))) (.node (boot_o_6 P) (.node (boot_o_10 P) (.node (x18v0 P) (.node (x34v0 P) (.node (x66v0 P) .nil .nil) (.node (x98v0 P) .nil .nil)) (.node (x50v0 P) (.node (x82v0 P) .nil .nil) (.node (x114v0 P) .nil .nil))) (.node (x26v0 P) (.node (x42v0 P) (.node (x74v0 P) .nil .nil) (.node (x106v0 P) .nil .nil)) (.node (x58v0 P) (.node (x90v0 P) .nil .nil) (.node (x122v0 P) .nil .nil)))) (.node (x14v0 P) (.node (x22v0 P) (.node (x38v0 P) (.node (x70v0 P) .nil .nil) (.node (x102v0 P) .nil .nil)) (.node (x54v0 P) (.node (x86v0 P) .nil .nil) (.node (x118v0 P) .nil .nil))) (.node (x30v0 P) (.node (x46v0 P) (.node (x78v0 P) .nil .nil) (.node (x110v0 P) .nil .nil)) (.node (x62v0 P) (.node (x94v0 P) .nil .nil) .nil))))))
noncomputable def T10 (P : Params) : BT := (.node (boot_o_0 P) (.node (boot_o_1 P) (.node (x3v6 P) (.node (boot_o_7 P) (.node (x15v0 P) (.node (x31v0 P) (.node (x63v0 P) (.node (x127v0 P) .nil .nil) .nil) (.node (x95v0 P) .nil .nil)) (.node (x47v0 P) (.node (x79v0 P) .nil .nil) (.node (x111v0 P) .nil .nil))) (.node (x23v0 P) (.node (x39v0 P) (.node (x71v0 P) (.node (x135v0 P) .nil .nil) .nil) (.node (x103v0 P) .nil .nil)) (.node (x55v0 P) (.node (x87v0 P) .nil .nil) (.node (x119v0 P) .nil .nil)))) (.node (x11v0 P) (.node (x19v0 P) (.node (x35v0 P) (.node (x67v0 P) (.node (x131v0 P) .nil .nil) .nil) (.node (x99v0 P) .nil .nil)) (.node (x51v0 P) (.node (x83v0 P) .nil .nil) (.node (x115v0 P) .nil .nil))) (.node (x27v0 P) (.node (x43v0 P) (.node (x75v0 P) (.node (x139v0 P) .nil .nil) .nil) (.node (x107v0 P) .nil .nil)) (.node (x59v0 P) (.node (x91v0 P) .nil .nil) (.node (x123v0 P) .nil .nil))))) (.node (boot_o_5 P) (.node (boot_o_9 P) (.node (x17v0 P) (.node (x33v0 P) (.node (x65v0 P) (.node (x129v0 P) .nil .nil) .nil) (.node (x97v0 P) .nil .nil)) (.node (x49v0 P) (.node (x81v0 P) .nil .nil) (.node (x113v0 P) .nil .nil))) (.node (x25v0 P) (.node (x41v0 P) (.node (x73v0 P) (.node (x137v0 P) .nil .nil) .nil) (.node (x105v0 P) .nil .nil)) (.node (x57v0 P) (.node (x89v0 P) .nil .nil) (.node (x121v0 P) .nil .nil)))) (.node (x13v0 P) (.node (x21v0 P) (.node (x37v0 P) (.node (x69v0 P) (.node (x133v0 P) .nil .nil) .nil) (.node (x101v0 P) .nil .nil)) (.node (x53v0 P) (.node (x85v0 P) .nil .nil) (.node (x117v0 P) .nil .nil))) (.node (x29v0 P) (.node (x45v0 P) (.node (x77v0 P) (.node (x141v0 P) .nil .nil) .nil) (.node (x109v0 P) .nil .nil)) (.node (x61v0 P) (.node (x93v0 P) .nil .nil) (.node (x125v0 P) .nil .nil)))))) (.node (boot_o_2 P) (.node (boot_o_4 P) (.node (boot_o_8 P) (.node (x16v0 P) (.node (x32v0 P) (.node (x64v0 P) (.node (x128v0 P) .nil .nil) .nil) (.node (x96v0 P) .nil .nil)) (.node (x48v0 P) (.node (x80v0 P) .nil .nil) (.node (x112v0 P) .nil .nil))) (.node (x24v0 P) (.node (x40v0 P) (.node (x72v0 P) (.node (x136v0 P) .nil .nil) .nil) (.node (x104v0 P) .nil .nil)) (.node (x56v0 P) (.node (x88v0 P) .nil .nil) (.node (x120v0 P) .nil .nil)))) (.node (x12v4 P) (.node (x20v0 P) (.node (x36v0 P) (.node (x68v0 P) (.node (x132v0 P) .nil .nil) .nil) (.node (x100v0 P) .nil .nil)) (.node (x52v0 P) (.node (x84v0 P) .nil .nil) (.node (x116v0 P) .nil .nil))) (.node (x28v0 P) (.node (x44v0 P) (.node (x76v0 P) (.node (x140v0 P) .nil .nil) .nil) (.node (x108v0 P) .nil .nil)) (.node (x60v0 P) (.node (x92v0 P) .nil .nil) (.node (x124v0 P) .nil .nil))))) (.node (boot_o_6 P) (.node (boot_o_10 P) (.node (x18v0 P) (.node (x34v0 P) (.node (x66v0 P) (.node (x130v0 P) .nil .nil) .nil) (.node (x98v0 P) .nil .nil)) (.node (x50v0 P) (.node (x82v0 P) .nil .nil) (.node (x114v0 P) .nil .nil))) (.node (x26v0 P) (.node (x42v0 P) (.node (x74v0 P) (.node (x138v0 P) .nil .nil) .nil) (.node (x106v0 P) .nil .nil)) (.node (x58v0 P) (.node (x90v0 P) .nil .nil) (.node (x122v0 P) .nil .nil)))) (.node (x14v0 P) (.node (x22v0 P) (.node (x38v0 P) (.node (x70v0 P) (.node (x134v0 P) .nil .nil) .nil) (.node (x102v0 P) .nil .nil)) (.node (x54v0 P) (.node (x86v0 P) .nil .nil) (.node (x118v0 P) .nil .nil))) (.node (x30v0 P) (.node (x46v0 P) (.node (x78v0 P) .nil .nil) (.node (x110v0 P) .nil .nil)) (.node (x62v0 P) (.node (x94v0 P) .nil .nil) (.node (x126v0 P) .nil .nil)))))))
noncomputable def T11 (P : Params) : BT := (.node (boot_o_0 P) (.node (boot_o_1 P) (.node (x3v7 P) (.node (boot_o_7 P) (.node (x15v0 P) (.node (x31v0 P) (.node (x63v0 P) (.node (x127v0 P) .nil .nil) .nil) (.node (x95v0 P) .nil .nil)) (.node (x47v0 P) (.node (x79v0 P) (.node (x143v0 P) .nil .nil) .nil) (.node (x111v0 P) .nil .nil))) (.node (x23v0 P) (.node (x39v0 P) (.node (x71v0 P) (.node (x135v0 P) .nil .nil) .nil) (.node (x103v0 P) .nil .nil)) (.node (x55v0 P) (.node (x87v0 P) .nil .nil) (.node (x119v0 P) .nil .nil)))) (.node (x11v0 P) (.node (x19v0 P) (.node (x35v0 P) (.node (x67v0 P) (.node (x131v0 P) .nil .nil) .nil) (.node (x99v0 P) .nil .nil)) (.node (x51v0 P) (.node (x83v0 P) (.node (x147v0 P) .nil .nil) .nil) (.node (x115v0 P) .nil .nil))) (.node (x27v0 P) (.node (x43v0 P) (.node (x75v0 P) (.node (x139v0 P) .nil .nil) .nil) (.node (x107v0 P) .nil .nil)) (.node (x59v0 P) (.node (x91v0 P) .nil .nil) (.node (x123v0 P) .nil .nil))))) (.node (boot_o_5 P) (.node (boot_o_9 P) (.node (x17v0 P) (.node (x33v0 P) (.node (x65v0 P) (.node (x129v0 P) .nil .nil) .nil) (.node (x97v0 P) .nil .nil)) (.node (x49v0 P) (.node (x81v0 P) (.node (x145v0 P) .nil .nil) .nil) (.node (x113v0 P) .nil .nil))) (.node (x25v0 P) (.node (x41v0 P) (.node (x73v0 P) (.node (x137v0 P) .nil .nil) .nil) (.node (x105v0 P) .nil .nil)) (.node (x57v0 P) (.node (x89v0 P) .nil .nil) (.node (x121v0 P) .nil .nil)))) (.node (x13v0 P) (.node (x21v0 P) (.node (x37v0 P) (.node (x69v0 P) (.node (x133v0 P) .nil .nil) .nil) (.node (x101v0 P) .nil .nil)) (.node (x53v0 P) (.node (x85v0 P) .nil .nil) (.node (x117v0 P) .nil .nil))) (.node (x29v0 P) (.node (x45v0 P) (.node (x77v0 P) (.node (x141v0 P) .nil .nil) .nil) (.node (x109v0 P) .nil .nil)) (.node (x61v0 P) (.node (x93v0 P) .nil .nil) (.node (x125v0 P) .nil .nil)))))) (.node (boot_o_2 P) (.node (boot_o_4 P) (.node (boot_o_8 P) (.node (x16v0 P) (.node (x32v0 P) (.node (x64v0 P) (.node (x128v0 P) .nil .nil) .nil) (.node (x96v0 P) .nil .nil)) (.node (x48v0 P) (.node (x80v0 P) (.node (x144v0 P) .nil .nil) .nil) (.node (x112v0 P) .nil .nil))) (.node (x24v0 P) (.node (x40v0 P) (.node (x72v0 P) (.node (x136v0 P) .nil .nil) .nil) (.node (x104v0 P) .nil .nil)) (.node (x56v0 P) (.node (x88v0 P) .nil .nil) (.node (x120v0 P) .nil .nil)))) (.node (x12v5 P) (.node (x20v0 P) (.node (x36v0 P) (.node (x68v0 P) (.node (x132v0 P) .nil .nil) .nil) (.node (x100v0 P) .nil .nil)) (.node (x52v0 P) (.node (x84v0 P) (.node (x148v0 P) .nil .nil) .nil) (.node (x116v0 P) .nil .nil))) (.node (x28v0 P) (.node (x44v0 P) (.node (x76v0 P) (.node (x140v0 P) .nil .nil) .nil) (.node (x108v0 P) .nil .nil)) (.node (x60v0 P) (.node (x92v0 P) .nil .nil) (.node (x124v0 P) .nil .nil))))) (.node (boot_o_6 P) (.node (boot_o_10 P) (.node (x18v0 P) (.node (x34v0 P) (.node (x66v0 P) (.node (x130v0 P) .nil .nil) .nil) (.node (x98v0 P) .nil .nil)) (.node (x50v0 P) (.node (x82v0 P) (.node (x146v0 P) .nil .nil) .nil) (.node (x114v0 P) .nil .nil))) (.node (x26v0 P) (.node (x42v0 P) (.node (x74v0 P) (.node (x138v0 P) .nil .nil) .nil) (.node (x106v0 P) .nil .nil)) (.node (x58v0 P) (.node (x90v0 P) .nil .nil) (.node (x122v0 P) .nil .nil)))) (.node (x14v0 P) (.node (x22v0 P) (.node (x38v0 P) (.node (x70v0 P) (.node (x134v0 P) .nil .nil) .nil) (.node (x102v0 P) .nil .nil)) (.node (x54v0 P) (.node (x86v0 P) .nil .nil) (.node (x118v0 P) .nil .nil))) (.node (x30v0 P) (.node (x46v0 P) (.node (x78v0 P) (.node (x142v0 P) .nil .nil) .nil) (.node (x110v0 P) .nil .nil)) (.node (x62v0 P) (.node (x94v0 P) .nil .nil) (.node (x126v0 P) .nil .nil)))))))
noncomputable def TA0 (P : Params) : BT := (.node (boot_o_0 P) (.node (boot_o_1 P) (.node (x3v7 P) (.node (boot_o_7 P) (.node (x15v0 P) (.node (x31v0 P) (.node (x63v0 P) (.node (x127v0 P) .nil .nil) .nil) (.node (x95v0 P) .nil .nil)) (.node (x47v0 P) (.node (x79v0 P) (.node (x143v0 P) .nil .nil) .nil) (.node (x111v0 P) .nil .nil))) (.node (x23v0 P) (.node (x39v0 P) (.node (x71v0 P) (.node (x135v0 P) .nil .nil) .nil) (.node (x103v0 P) .nil .nil)) (.node (x55v0 P) (.node (x87v0 P) (.node (x151v0 P) .nil .nil) .nil) (.node (x119v0 P) .nil .nil)))) (.node (x11v0 P) (.node (x19v0 P) (.node (x35v0 P) (.node (x67v0 P) (.node (x131v0 P) .nil .nil) .nil) (.node (x99v0 P) .nil .nil)) (.node (x51v0 P) (.node (x83v0 P) (.node (x147v0 P) .nil .nil) .nil) (.node (x115v0 P) .nil .nil))) (.node (x27v0 P) (.node (x43v0 P) (.node (x75v0 P) (.node (x139v0 P) .nil .nil) .nil) (.node (x107v0 P) .nil .nil)) (.node (x59v0 P) (.node (x91v0 P) .nil .nil) (.node (x123v0 P) .nil .nil))))) (.node (boot_o_5 P) (.node (boot_o_9 P) (.node (x17v0 P) (.node (x33v0 P) (.node (x65v0 P) (.node (x129v0 P) .nil .nil) .nil) (.node (x97v0 P) .nil .nil)) (.node (x49v0 P) (.node (x81v0 P) (.node (x145v0 P) .nil .nil) .nil) (.node (x113v0 P) .nil .nil))) (.node (x25v0 P) (.node (x41v0 P) (.node (x73v0 P) (.node (x137v0 P) .nil .nil) .nil) (.node (x105v0 P) .nil .nil)) (.node (x57v0 P) (.node (x89v0 P) .nil .nil) (.node (x121v0 P) .nil .nil)))) (.node (x13v0 P) (.node (x21v0 P) (.node (x37v0 P) (.node (x69v0 P) (.node (x133v0 P) .nil .nil) .nil) (.node (x101v0 P) .nil .nil)) (.node (x53v0 P) (.node (x85v0 P) (.node (x149v0 P) .nil .nil) .nil) (.node (x117v0 P) .nil .nil))) (.node (x29v0 P) (.node (x45v0 P) (.node (x77v0 P) (.node (x141v0 P) .nil .nil) .nil) (.node (x109v0 P) .nil .nil)) (.node (x61v0 P) (.node (x93v0 P) .nil .nil) (.node (x125v0 P) .nil .nil)))))) (.node (boot_o_2 P) (.node (boot_o_4 P) (.node (boot_o_8 P) (.node (x16v0 P) (.node (x32v0 P) (.node (x64v0 P) (.node (x128v0 P) .nil .nil) .nil) (.node (x96v0 P) .nil .nil)) (.node (x48v0 P) (.node (x80v0 P) (.node (x144v0 P) .nil .nil) .nil) (.node (x112v0 P) .nil .nil))) (.node (x24v0 P) (.node (x40v0 P) (.node (x72v0 P) (.node (x136v0 P) .nil .nil) .nil) (.node (x104v0 P) .nil .nil)) (.node (x56v0 P) (.node (x88v0 P) (.node (x152v0 P) .nil .nil) .nil) (.node (x120v0 P) .nil .nil)))) (.node (x12v5 P) (.node (x20v0 P) (.node (x36v0 P) (.node (x68v0 P) (.node (x132v0 P) .nil .nil) .nil) (.node (x100v0 P) .nil .nil)) (.node (x52v0 P) (.node (x84v0 P) (.node (x148v0 P) .nil .nil) .nil) (.node (x116v0 P) .nil .nil))) (.node (x28v0 P) (.node (x44v0 P) (.node (x76v0 P) (.node (x140v0 P) .nil .nil) .nil) (.node (x108v0 P) .nil .nil)) (.node (x60v0 P) (.node (x92v0 P) .nil .nil) (.node (x124v0 P) .nil .nil))))) (.node (boot_o_6 P) (.node (boot_o_10 P) (.node (x18v0 P) (.node (x34v0 P) (.node (x66v0 P) (.node (x130v0 P) .nil .nil) .nil) (.node (x98v0 P) .nil .nil)) (.node (x50v0 P) (.node (x82v0 P) (.node (x146v0 P) .nil .nil) .nil) (.node (x114v0 P) .nil .nil))) (.node (x26v0 P) (.node (x42v0 P) (.node (x74v0 P) (.node (x138v0 P) .nil .nil) .nil) (.node (x106v0 P) .nil .nil)) (.node (x58v0 P) (.node (x90v0 P) .nil .nil) (.node (x122v0 P) .nil .nil)))) (.node (x14v0 P) (.node (x22v0 P) (.node (x38v0 P) (.node (x70v0 P) (.node (x134v0 P) .nil .nil) .nil) (.node (x102v0 P) .nil .nil)) (.node (x54v0 P) (.node (x86v0 P) (.node (x150v0 P) .nil .nil) .nil) (.node (x118v0 P) .nil .nil))) (.node (x30v0 P) (.node (x46v0 P) (.node (x78v0 P) (.node (x142v0 P) .nil .nil) .nil) (.node (x110v0 P) .nil .nil)) (.node (x62v0 P) (.node (x94v0 P) .nil .nil) (.node (x126v0 P) .nil .nil)))))))
noncomputable def TA1 (P : Params) : BT := (.node (boot_o_0 P) (.node (boot_o_1 P) (.node (x3v7 P) (.node (boot_o_7 P) (.node (x15v0 P) (.node (x31v0 P) (.node (x63v0 P) (.node (x127v0 P) .nil .nil) .nil) (.node (x95v0 P) .nil .nil)) (.node (x47v0 P) (.node (x79v0 P) (.node (x143v0 P) .nil .nil) .nil) (.node (x111v0 P) .nil .nil))) (.node (x23v0 P) (.node (x39v0 P) (.node (x71v0 P) (.node (x135v0 P) .nil .nil) .nil) (.node (x103v0 P) .nil .nil)) (.node (x55v0 P) (.node (x87v0 P) (.node (x151v1 P) .nil .nil) .nil) (.node (x119v0 P) .nil .nil)))) (.node (x11v0 P) (.node (x19v0 P) (.node (x35v0 P) (.node (x67v0 P) (.node (x131v0 P) .nil .nil) .nil) (.node (x99v0 P) .nil .nil)) (.node (x51v0 P) (.node (x83v0 P) (.node (x147v0 P) .nil .nil) .nil) (.node (x115v0 P) .nil .nil))) (.node (x27v0 P) (.node (x43v0 P) (.node (x75v0 P) (.node (x139v0 P) .nil .nil) .nil) (.node (x107v0 P) .nil .nil)) (.node (x59v0 P) (.node (x91v0 P) .nil .nil) (.node (x123v0 P) .nil .nil))))) (.node (boot_o_5 P) (.node (boot_o_9 P) (.node (x17v0 P) (.node (x33v0 P) (.node (x65v0 P) (.node (x129v0 P) .nil .nil) .nil) (.node (x97v0 P) .nil .nil)) (.node (x49v0 P) (.node (x81v0 P) (.node (x145v0 P) .nil .nil) .nil) (.node (x113v0 P) .nil .nil))) (.node (x25v0 P) (.node (x41v0 P) (.node (x73v0 P) (.node (x137v0 P) .nil .nil) .nil) (.node (x105v0 P) .nil .nil)) (.node (x57v0 P) (.node (x89v0 P) .nil .nil) (.node (x121v0 P) .nil .nil)))) (.node (x13v0 P) (.node (x21v0 P) (.node (x37v0 P) (.node (x69v0 P) (.node (x133v0 P) .nil .nil) .nil) (.node (x101v0 P) .nil .nil)) (.node (x53v0 P) (.node (x85v0 P) (.node (x149v0 P) .nil .nil) .nil) (.node (x117v0 P) .nil .nil))) (.node (x29v0 P) (.node (x45v0 P) (.node (x77v0 P) (.node (x141v0 P) .nil .nil) .nil) (.node (x109v0 P) .nil .nil)) (.node (x61v0 P) (.node (x93v0 P) .nil .nil) (.node (x125v0 P) .nil .nil)))))) (.node (boot_o_2 P) (.node (boot_o_4 P) (.node (boot_o_8 P) (.node (x16v0 P) (.node (x32v0 P) (.node (x64v0 P) (.node (x128v0 P) .nil .nil) .nil) (.node (x96v0 P) .nil .nil)) (.node (x48v0 P) (.node (x80v0 P) (.node (x144v0 P) .nil .nil) .nil) (.node (x112v0 P) .nil .nil))) (.node (x24v0 P) (.node (x40v0 P) (.node (x72v0 P) (.node (x136v0 P) .nil .nil) .nil) (.node (x104v0 P) .nil .nil)) (.node (x56v0 P) (.node (x88v0 P) (.node (x152v1 P) .nil .nil) .nil) (.node (x120v0 P) .nil .nil)))) (.node (x12v5 P) (.node (x20v0 P) (.node (x36v0 P) (.node (x68v0 P) (.node (x132v0 P) .nil .nil) .nil) (.node (x100v0 P) .nil .nil)) (.node (x52v0 P) (.node (x84v0 P) (.node (x148v0 P) .nil .nil) .nil) (.node (x116v0 P) .nil .nil))) (.node (x28v0 P) (.node (x44v0 P) (.node (x76v0 P) (.node (x140v0 P) .nil .nil) .nil) (.node (x108v0 P) .nil .nil)) (.node (x60v0 P) (.node (x92v0 P) .nil .nil) (.node (x124v0 P) .nil .nil))))) (.node (boot_o_6 P) (.node (boot_o_10 P) (.node (x18v0 P) (.node (x34v0 P) (.node (x66v0 P) (.node (x130v0 P) .nil .nil) .nil) (.node (x98v0 P) .nil .nil)) (.node (x50v0 P) (.node (x82v0 P) (.node (x146v0 P) .nil .nil) .nil) (.node (x114v0 P) .nil .nil))) (.node (x26v0 P) (.node (x42v0 P) (.node (x74v0 P) (.node (x138v0 P) .nil .nil) .nil) (.node (x106v0 P) .nil .nil)) (.node (x58v0 P) (.node (x90v0 P) .nil .nil) (.node (x122v0 P) .nil .nil)))) (.node (x14v0 P) (.node (x22v0 P) (.node (x38v0 P) (.node (x70v0 P) (.node (x134v0 P) .nil .nil) .nil) (.node (x102v0 P) .nil .nil)) (.node (x54v0 P) (.node (x86v0 P) (.node (x150v0 P) .nil .nil) .nil) (.node (x118v0 P) .nil .nil))) (.node (x30v0 P) (.node (x46v0 P) (.node (x78v0 P) (.node (x142v0 P) .nil .nil) .nil) (.node (x110v0 P) .nil .nil)) (.node (x62v0 P) (.node (x94v0 P) .nil .nil) (.node (x126v0 P) .nil .nil)))))))
noncomputable def TA2 (P : Params) : BT := (.node (boot_o_0 P) (.node (boot_o_1 P) (.node (x3v7 P) (.node (boot_o_7 P) (.node (x15v0 P) (.node (x31v0 P) (.node (x63v0 P) (.node (x127v0 P) .nil .nil) .nil) (.node (x95v0 P) .nil .nil)) (.node (x47v0 P) (.node (x79v0 P) (.node (x143v0 P) .nil .nil) .nil) (.node (x111v0 P) .nil .nil))) (.node (x23v0 P) (.node (x39v0 P) (.node (x71v0 P) (.node (x135v0 P) .nil .nil) .nil) (.node (x103v0 P) .nil .nil)) (.node (x55v0 P) (.node (x87v0 P) (.node (x151v2 P) .nil .nil) .nil) (.node (x119v0 P) .nil .nil)))) (.node (x11v0 P) (.node (x19v0 P) (.node (x35v0 P) (.node (x67v0 P) (.node (x131v0 P) .nil .nil) .nil) (.node (x99v0 P) .nil .nil)) (.node (x51v0 P) (.node (x83v0 P) (.node (x147v0 P) .nil .nil) .nil) (.node (x115v0 P) .nil .nil))) (.node (x27v0 P) (.node (x43v0 P) (.node (x75v0 P) (.node (x139v0 P) .nil .nil) .nil) (.node (x107v0 P) .nil .nil)) (.node (x59v0 P) (.node (x91v0 P) .nil .nil) (.node (x123v0 P) .nil .nil))))) (.node (boot_o_5 P) (.node (boot_o_9 P) (.node (x17v0 P) (.node (x33v0 P) (.node (x65v0 P) (.node (x129v0 P) .nil .nil) .nil) (.node (x97v0 P) .nil .nil)) (.node (x49v0 P) (.node (x81v0 P) (.node (x145v0 P) .nil .nil) .nil) (.node (x113v0 P) .nil .nil))) (.node (x25v0 P) (.node (x41v0 P) (.node (x73v0 P) (.node (x137v0 P) .nil .nil) .nil) (.node (x105v0 P) .nil .nil)) (.node (x57v0 P) (.node (x89v0 P) .nil .nil) (.node (x121v0 P) .nil .nil)))) (.node (x13v0 P) (.node (x21v0 P) (.node (x37v0 P) (.node (x69v0 P) (.node (x133v0 P) .nil .nil) .nil) (.node (x101v0 P) .nil .nil)) (.node (x53v0 P) (.node (x85v0 P) (.node (x149v0 P) .nil .nil) .nil) (.node (x117v0 P) .nil .nil))) (.node (x29v0 P) (.node (x45v0 P) (.node (x77v0 P) (.node (x141v0 P) .nil .nil) .nil) (.node (x109v0 P) .nil .nil)) (.node (x61v0 P) (.node (x93v0 P) .nil .nil) (.node (x125v0 P) .nil .nil)))))) (.node (boot_o_2 P) (.node (boot_o_4 P) (.node (boot_o_8 P) (.node (x16v0 P) (.node (x32v0 P) (.node (x64v0 P) (.node (x128v0 P) .nil .nil) .nil) (.node (x96v0 P) .nil .nil)) (.node (x48v0 P) (.node (x80v0 P) (.node (x144v0 P) .nil .nil) .nil) (.node (x112v0 P) .nil .nil))) (.node (x24v0 P) (.node (x40v0 P) (.node (x72v0 P) (.node (x136v0 P) .nil .nil) .nil) (.node (x104v0 P) .nil .nil)) (.node (x56v0 P) (.node (x88v0 P) (.node (x152v2 P) .nil .nil) .nil) (.node (x120v0 P) .nil .nil)))) (.node (x12v5 P) (.node (x20v0 P) (.node (x36v0 P) (.node (x68v0 P) (.node (x132v0 P) .nil .nil) .nil) (.node (x100v0 P) .nil .nil)) (.node (x52v0 P) (.node (x84v0 P) (.node (x148v0 P) .nil .nil) .nil) (.node (x116v0 P) .nil .nil))) (.node (x28v0 P) (.node (x44v0 P) (.node (x76v0 P) (.node (x140v0 P) .nil .nil) .nil) (.node (x108v0 P) .nil .nil)) (.node (x60v0 P) (.node (x92v0 P) .nil .nil) (.node (x124v0 P) .nil .nil))))) (.node (boot_o_6 P) (.node (boot_o_10 P) (.node (x18v0 P) (.node (x34v0 P) (.node (x66v0 P) (.node (x130v0 P) .nil .nil) .nil) (.node (x98v0 P) .nil .nil)) (.node (x50v0 P) (.node (x82v0 P) (.node (x146v0 P) .nil .nil) .nil) (.node (x114v0 P) .nil .nil))) (.node (x26v0 P) (.node (x42v0 P) (.node (x74v0 P) (.node (x138v0 P) .nil .nil) .nil) (.node (x106v0 P) .nil .nil)) (.node (x58v0 P) (.node (x90v0 P) .nil .nil) (.node (x122v0 P) .nil .nil)))) (.node (x14v0 P) (.node (x22v0 P) (.node (x38v0 P) (.node (x70v0 P) (.node (x134v0 P) .nil .nil) .nil) (.node (x102v0 P) .nil .nil)) (.node (x54v0 P) (.node (x86v0 P) (.node (x150v0 P) .nil .nil) .nil) (.node (x118v0 P) .nil .nil))) (.node (x30v0 P) (.node (x46v0 P) (.node (x78v0 P) (.node (x142v0 P) .nil .nil) .nil) (.node (x110v0 P) .nil .nil)) (.node (x62v0 P) (.node (x94v0 P) .nil .nil) (.node (x126v0 P) .nil .nil)))))))
noncomputable def TA3 (P : Params) : BT := (.node (boot_o_0 P) (.node (boot_o_1 P) (.node (x3v7 P) (.node (boot_o_7 P) (.node (x15v0 P) (.node (x31v0 P) (.node (x63v0 P) (.node (x127v0 P) .nil .nil) .nil) (.node (x95v0 P) .nil .nil)) (.node (x47v0 P) (.node (x79v0 P) (.node (x143v0 P) .nil .nil) .nil) (.node (x111v0 P) .nil .nil))) (.node (x23v0 P) (.node (x39v0 P) (.node (x71v0 P) (.node (x135v0 P) .nil .nil) .nil) (.node (x103v0 P) .nil .nil)) (.node (x55v0 P) (.node (x87v0 P) (.node (x151v3 P) .nil .nil) .nil) (.node (x119v0 P) .nil .nil)))) (.node (x11v0 P) (.node (x19v0 P) (.node (x35v0 P) (.node (x67v0 P) (.node (x131v0 P) .nil .nil) .nil) (.node (x99v0 P) .nil .nil)) (.node (x51v0 P) (.node (x83v0 P) (.node (x147v0 P) .nil .nil) .nil) (.node (x115v0 P) .nil .nil))) (.node (x27v0 P) (.node (x43v0 P) (.node (x75v0 P) (.node (x139v0 P) .nil .nil) .nil) (.node (x107v0 P) .nil .nil)) (.node (x59v0 P) (.node (x91v0 P) .nil .nil) (.node (x123v0 P) .nil .nil))))) (.node (boot_o_5 P) (.node (boot_o_9 P) (.node (x17v0 P) (.node (x33v0 P) (.node (x65v0 P) (.node (x129v0 P) .nil .nil) .nil) (.node (x97v0 P) .nil .nil)) (.node (x49v0 P) (.node (x81v0 P) (.node (x145v0 P) .nil .nil) .nil) (.node (x113v0 P) .nil .nil))) (.node (x25v0 P) (.node (x41v0 P) (.node (x73v0 P) (.node (x137v0 P) .nil .nil) .nil) (.node (x105v0 P) .nil .nil)) (.node (x57v0 P) (.node (x89v0 P) .nil .nil) (.node (x121v0 P) .nil .nil)))) (.node (x13v0 P) (.node (x21v0 P) (.node (x37v0 P) (.node (x69v0 P) (.node (x133v0 P) .nil .nil) .nil) (.node (x101v0 P) .nil .nil)) (.node (x53v0 P) (.node (x85v0 P) (.node (x149v0 P) .nil .nil) .nil) (.node (x117v0 P) .nil .nil))) (.node (x29v0 P) (.node (x45v0 P) (.node (x77v0 P) (.node (x141v0 P) .nil .nil) .nil) (.node (x109v0 P) .nil .nil)) (.node (x61v0 P) (.node (x93v0 P) .nil .nil) (.node (x125v0 P) .nil .nil)))))) (.node (boot_o_2 P) (.node (boot_o_4 P) (.node (boot_o_8 P) (.node (x16v0 P) (.node (x32v0 P) (.node (x64v0 P) (.node (x128v0 P) .nil .nil) .nil) (.node (x96v0 P) .nil .nil)) (.node (x48v0 P) (.node (x80v0 P) (.node (x144v0 P) .nil .nil) .nil) (.node (x112v0 P) .nil .nil))) (.node (x24v0 P) (.node (x40v0 P) (.node (x72v0 P) (.node (x136v0 P) .nil .nil) .nil) (.node (x104v0 P) .nil .nil)) (.node (x56v0 P) (.node (x88v0 P) (.node (x152v3 P) .nil .nil) .nil) (.node (x120v0 P) .nil .nil)))) (.node (x12v5 P) (.node (x20v0 P) (.node (x36v0 P) (.node (x68v0 P) (.node (x132v0 P) .nil .nil) .nil) (.node (x100v0 P) .nil .nil)) (.node (x52v0 P) (.node (x84v0 P) (.node (x148v0 P) .nil .nil) .nil) (.node (x116v0 P) .nil .nil))) (.node (x28v0 P) (.node (x44v0 P) (.node (x76v0 P) (.node (x140v0 P) .nil .nil) .nil) (.node (x108v0 P) .nil .nil)) (.node (x60v0 P) (.node (x92v0 P) .nil .nil) (.node (x124v0 P) .nil .nil))))) (.node (boot_o_6 P) (.node (boot_o_10 P) (.node (x18v0 P) (.node (x34v0 P) (.node (x66v0 P) (.node (x130v0 P) .nil .nil) .nil) (.node (x98v0 P) .nil .nil)) (.node (x50v0 P) (.node (x82v0 P) (.node (x146v0 P) .nil .nil) .nil) (.node (x114v0 P) .nil .nil))) (.node (x26v0 P) (.node (x42v0 P) (.node (x74v0 P) (.node (x138v0 P) .nil .nil) .nil) (.node (x106v0 P) .nil .nil)) (.node (x58v0 P) (.node (x90v0 P) .nil .nil) (.node (x122v0 P) .nil .nil)))) (.node (x14v0 P) (.node (x22v0 P) (.node (x38v0 P) (.node (x70v0 P) (.node (x134v0 P) .nil .nil) .nil) (.node (x102v0 P) .nil .nil)) (.node (x54v0 P) (.node (x86v0 P) (.node (x150v0 P) .nil .nil) .nil) (.node (x118v0 P) .nil .nil))) (.node (x30v0 P) (.node (x46v0 P) (.node (x78v0 P) (.node (x142v0 P) .nil .nil) .nil) (.node (x110v0 P) .nil .nil)) (.node (x62v0 P) (.node (x94v0 P) .nil .nil) (.node (x126v0 P) .nil .nil)))))))
noncomputable def TA4 (P : Params) : BT := (.node (boot_o_0 P) (.node (boot_o_1 P) (.node (x3v7 P) (.node (boot_o_7 P) (.node (x15v0 P) (.node (x31v0 P) (.node (x63v0 P) (.node (x127v0 P) .nil .nil) .nil) (.node (x95v0 P) .nil .nil)) (.node (x47v0 P) (.node (x79v0 P) (.node (x143v0 P) .nil .nil) .nil) (.node (x111v0 P) .nil .nil))) (.node (x23v0 P) (.node (x39v0 P) (.node (x71v0 P) (.node (x135v0 P) .nil .nil) .nil) (.node (x103v0 P) .nil .nil)) (.node (x55v0 P) (.node (x87v0 P) (.node (x151v4 P) .nil .nil) .nil) (.node (x119v0 P) .nil .nil)))) (.node (x11v0 P) (.node (x19v0 P) (.node (x35v0 P) (.node (x67v0 P) (.node (x131v0 P) .nil .nil) .nil) (.node (x99v0 P) .nil .nil)) (.node (x51v0 P) (.node (x83v0 P) (.node (x147v0 P) .nil .nil) .nil) (.node (x115v0 P) .nil .nil))) (.node (x27v0 P) (.node (x43v0 P) (.node (x75v0 P) (.node (x139v0 P) .nil .nil) .nil) (.node (x107v0 P) .nil .nil)) (.node (x59v0 P) (.node (x91v0 P) .nil .nil) (.node (x123v0 P) .nil .nil))))) (.node (boot_o_5 P) (.node (boot_o_9 P) (.node (x17v0 P) (.node (x33v0 P) (.node (x65v0 P) (.node (x129v0 P) .nil .nil) .nil) (.node (x97v0 P) .nil .nil)) (.node (x49v0 P) (.node (x81v0 P) (.node (x145v0 P) .nil .nil) .nil) (.node (x113v0 P) .nil .nil))) (.node (x25v0 P) (.node (x41v0 P) (.node (x73v0 P) (.node (x137v0 P) .nil .nil) .nil) (.node (x105v0 P) .nil .nil)) (.node (x57v0 P) (.node (x89v0 P) .nil .nil) (.node (x121v0 P) .nil .nil)))) (.node (x13v0 P) (.node (x21v0 P) (.node (x37v0 P) (.node (x69v0 P) (.node (x133v0 P) .nil .nil) .nil) (.node (x101v0 P) .nil .nil)) (.node (x53v0 P) (.node (x85v0 P) (.node (x149v0 P) .nil .nil) .nil) (.node (x117v0 P) .nil .nil))) (.node (x29v0 P) (.node (x45v0 P) (.node (x77v0 P) (.node (x141v0 P) .nil .nil) .nil) (.node (x109v0 P) .nil .nil)) (.node (x61v0 P) (.node (x93v0 P) .nil .nil) (.node (x125v0 P) .nil .nil)))))) (.node (boot_o_2 P) (.node (boot_o_4 P) (.node (boot_o_8 P) (.node (x16v0 P) (.node (x32v0 P) (.node (x64v0 P) (.node (x128v0 P) .nil .nil) .nil) (.node (x96v0 P) .nil .nil)) (.node (x48v0 P) (.node (x80v0 P) (.node (x144v0 P) .nil .nil) .nil) (.node (x112v0 P) .nil .nil))) (.node (x24v0 P) (.node (x40v0 P) (.node (x72v0 P) (.node (x136v0 P) .nil .nil) .nil) (.node (x104v0 P) .nil .nil)) (.node (x56v0 P) (.node (x88v0 P) (.node (x152v4 P) .nil .nil) .nil) (.node (x120v0 P) .nil .nil)))) (.node (x12v5 P) (.node (x20v0 P) (.node (x36v0 P) (.node (x68v0 P) (.node (x132v0 P) .nil .nil) .nil) (.node (x100v0 P) .nil .nil)) (.node (x52v0 P) (.node (x84v0 P) (.node (x148v0 P) .nil .nil) .nil) (.node (x116v0 P) .nil .nil))) (.node (x28v0 P) (.node (x44v0 P) (.node (x76v0 P) (.node (x140v0 P) .nil .nil) .nil) (.node (x108v0 P) .nil .nil)) (.node (x60v0 P) (.node (x92v0 P) .nil .nil) (.node (x124v0 P) .nil .nil))))) (.node (boot_o_6 P) (.node (boot_o_10 P) (.node (x18v0 P) (.node (x34v0 P) (.node (x66v0 P) (.node (x130v0 P) .nil .nil) .nil) (.node (x98v0 P) .nil .nil)) (.node (x50v0 P) (.node (x82v0 P) (.node (x146v0 P) .nil .nil) .nil) (.node (x114v0 P) .nil .nil))) (.node (x26v0 P) (.node (x42v0 P) (.node (x74v0 P) (.node (x138v0 P) .nil .nil) .nil) (.node (x106v0 P) .nil .nil)) (.node (x58v0 P) (.node (x90v0 P) .nil .nil) (.node (x122v0 P) .nil .nil)))) (.node (x14v0 P) (.node (x22v0 P) (.node (x38v0 P) (.node (x70v0 P) (.node (x134v0 P) .nil .nil) .nil) (.node (x102v0 P) .nil .nil)) (.node (x54v0 P) (.node (x86v0 P) (.node (x150v0 P) .nil .nil) .nil) (.node (x118v0 P) .nil .nil))) (.node (x30v0 P) (.node (x46v0 P) (.node (x78v0 P) (.node (x142v0 P) .nil .nil) .nil) (.node (x110v0 P) .nil .nil)) (.node (x62v0 P) (.node (x94v0 P) .nil .nil) (.node (x126v0 P) .nil .nil)))))))
noncomputable def TB (P : Params) (u v : Obj) : BT := (.node (boot_o_0 P) (.node (boot_o_1 P) (.node (x3v7 P) (.node (boot_o_7 P) (.node (x15v0 P) (.node (x31v0 P) (.node (x63v0 P) (.node (x127v0 P) .nil .nil) .nil) (.node (x95v0 P) .nil .nil)) (.node (x47v0 P) (.node (x79v0 P) (.node (x143v0 P) .nil .nil) .nil) (.node (x111v0 P) .nil .nil))) (.node (x23v0 P) (.node (x39v0 P) (.node (x71v0 P) (.node (x135v0 P) .nil .nil) .nil) (.node (x103v0 P) .nil .nil)) (.node (x55v0 P) (.node (x87v0 P) (.node (x151v4 P) .nil .nil) .nil) (.node (x119v0 P) .nil .nil)))) (.node (x11v0 P) (.node (x19v0 P) (.node (x35v0 P) (.node (x67v0 P) (.node (x131v0 P) .nil .nil) .nil) (.node (x99v0 P) .nil .nil)) (.node (x51v0 P) (.node (x83v0 P) (.node (x147v0 P) .nil .nil) .nil) (.node (x115v0 P) .nil .nil))) (.node (x27v0 P) (.node (x43v0 P) (.node (x75v0 P) (.node (x139v0 P) .nil .nil) .nil) (.node (x107v0 P) .nil .nil)) (.node (x59v0 P) (.node (x91v0 P) (.node (x155v0 P) .nil .nil) .nil) (.node (x123v0 P) .nil .nil))))) (.node (boot_o_5 P) (.node (boot_o_9 P) (.node (x17v0 P) (.node (x33v0 P) (.node (x65v0 P) (.node (x129v0 P) .nil .nil) .nil) (.node (x97v0 P) .nil .nil)) (.node (x49v0 P) (.node (x81v0 P) (.node (x145v0 P) .nil .nil) .nil) (.node (x113v0 P) .nil .nil))) (.node (x25v0 P) (.node (x41v0 P) (.node (x73v0 P) (.node (x137v0 P) .nil .nil) .nil) (.node (x105v0 P) .nil .nil)) (.node (x57v0 P) (.node (x89v0 P) (.node (x153v0 P) .nil .nil) .nil) (.node (x121v0 P) .nil .nil)))) (.node (x13v0 P) (.node (x21v0 P) (.node (x37v0 P) (.node (x69v0 P) (.node (x133v0 P) .nil .nil) .nil) (.node (x101v0 P) .nil .nil)) (.node (x53v0 P) (.node (x85v0 P) (.node (x149v0 P) .nil .nil) .nil) (.node (x117v0 P) .nil .nil))) (.node (x29v0 P) (.node (x45v0 P) (.node (x77v0 P) (.node (x141v0 P) .nil .nil) .nil) (.node (x109v0 P) .nil .nil)) (.node (x61v0 P) (.node (x93v0 P) (.node v .nil .nil) .nil) (.node (x125v0 P) .nil .nil)))))) (.node (boot_o_2 P) (.node (boot_o_4 P) (.node (boot_o_8 P) (.node (x16v0 P) (.node (x32v0 P) (.node (x64v0 P) (.node (x128v0 P) .nil .nil) .nil) (.node (x96v0 P) .nil .nil)) (.node (x48v0 P) (.node (x80v0 P) (.node (x144v0 P) .nil .nil) .nil) (.node (x112v0 P) .nil .nil))) (.node (x24v0 P) (.node (x40v0 P) (.node (x72v0 P) (.node (x136v0 P) .nil .nil) .nil) (.node (x104v0 P) .nil .nil)) (.node (x56v0 P) (.node (x88v0 P) (.node (x152v4 P) .nil .nil) .nil) (.node (x120v0 P) .nil .nil)))) (.node (x12v5 P) (.node (x20v0 P) (.node (x36v0 P) (.node (x68v0 P) (.node (x132v0 P) .nil .nil) .nil) (.node (x100v0 P) .nil .nil)) (.node (x52v0 P) (.node (x84v0 P) (.node (x148v0 P) .nil .nil) .nil) (.node (x116v0 P) .nil .nil))) (.node (x28v0 P) (.node (x44v0 P) (.node (x76v0 P) (.node (x140v0 P) .nil .nil) .nil) (.node (x108v0 P) .nil .nil)) (.node (x60v0 P) (.node (x92v0 P) (.node u .nil .nil) .nil) (.node (x124v0 P) .nil .nil))))) (.node (boot_o_6 P) (.node (boot_o_10 P) (.node (x18v0 P) (.node (x34v0 P) (.node (x66v0 P) (.node (x130v0 P) .nil .nil) .nil) (.node (x98v0 P) .nil .nil)) (.node (x50v0 P) (.node (x82v0 P) (.node (x146v0 P) .nil .nil) .nil) (.node (x114v0 P) .nil .nil))) (.node (x26v0 P) (.node (x42v0 P) (.node (x74v0 P) (.node (x138v0 P) .nil .nil) .nil) (.node (x106v0 P) .nil .nil)) (.node (x58v0 P) (.node (x90v0 P) (.node (x154v0 P) .nil .nil) .nil) (.node (x122v0 P) .nil .nil)))) (.node (x14v0 P) (.node (x22v0 P) (.node (x38v0 P) (.node (x70v0 P) (.node (x134v0 P) .nil .nil) .nil) (.node (x102v0 P) .nil .nil)) (.node (x54v0 P) (.node (x86v0 P) (.node (x150v0 P) .nil .nil) .nil) (.node (x118v0 P) .nil .nil))) (.node (x30v0 P) (.node (x46v0 P) (.node (x78v0 P) (.node (x142v0 P) .nil .nil) .nil) (.node (x110v0 P) .nil .nil)) (.node (x62v0 P) (.node (x94v0 P) .nil .nil) (.node (x126v0 P) .nil .nil)))))))
noncomputable def TB0 (P : Params) : BT := TB P (x156v0 P) (x157v0 P)
noncomputable def TB1 (P : Params) : BT := TB P (x156v1 P) (x157v1 P)
noncomputable def TB2 (P : Params) : BT := TB P (x156v2 P) (x157v2 P)
noncomputable def TB3 (P : Params) : BT := TB P (x156v3 P) (x157v3 P)
noncomputable def TB4 (P : Params) : BT := TB P (x156v4 P) (x157v4 P)
noncomputable def TB5 (P : Params) : BT := TB P (x156v5 P) (x157v5 P)
noncomputable def TB6 (P : Params) : BT := TB P (x156v6 P) (x157v6 P)
noncomputable def TB7 (P : Params) : BT := TB P (x156v7 P) (x157v7 P)
noncomputable def TB8 (P : Params) : BT := TB P (x156v8 P) (x157v8 P)
noncomputable def TB9 (P : Params) : BT := TB P (x156v9 P) (x157v9 P)
noncomputable def TB10 (P : Params) : BT := TB P (x156v10 P) (x157v10 P)
noncomputable def TB11 (P : Params) : BT := TB P (x156v11 P) (x157v11 P)
noncomputable def TB12 (P : Params) : BT := TB P (x156v12 P) (x157v12 P)
noncomputable def TB13 (P : Params) : BT := TB P (x156v13 P) (x157v13 P)
noncomputable def TB14 (P : Params) : BT := TB P (x156v14 P) (x157v14 P)
noncomputable def TB15 (P : Params) : BT := TB P (x156v15 P) (x157v15 P)
noncomputable def TB16 (P : Params) : BT := TB P (x156v16 P) (x157v16 P)
noncomputable def TB17 (P : Params) : BT := TB P (x156v17 P) (x157v17 P)
noncomputable def TB18 (P : Params) : BT := TB P (x156v18 P) (x157v18 P)
noncomputable def TB19 (P : Params) : BT := TB P (x156v19 P) (x157v19 P)
noncomputable def TB20 (P : Params) : BT := TB P (x156v20 P) (x157v20 P)
noncomputable def TB21 (P : Params) : BT := TB P (x156v21 P) (x157v21 P)
noncomputable def TB22 (P : Params) : BT := TB P (x156v22 P) (x157v22 P)
noncomputable def TB23 (P : Params) : BT := TB P (x156v23 P) (x157v23 P)
noncomputable def TB24 (P : Params) : BT := TB P (x156v24 P) (x157v24 P)
noncomputable def TB25 (P : Params) : BT := TB P (x156v25 P) (x157v25 P)
noncomputable def TB26 (P : Params) : BT := TB P (x156v26 P) (x157v26 P)
noncomputable def TB27 (P : Params) : BT := TB P (x156v27 P) (x157v27 P)
noncomputable def TB28 (P : Params) : BT := TB P (x156v28 P) (x157v28 P)
noncomputable def TB29 (P : Params) : BT := TB P (x156v29 P) (x157v29 P)
noncomputable def TB30 (P : Params) : BT := TB P (x156v30 P) (x157v30 P)
noncomputable def TB31 (P : Params) : BT := TB P (x156v31 P) (x157v31 P)
noncomputable def TB32 (P : Params) : BT := TB P (x156v32 P) (x157v32 P)
noncomputable def TB33 (P : Params) : BT := TB P (x156v33 P) (x157v33 P)
noncomputable def TB34 (P : Params) : BT := TB P (x156v34 P) (x157v34 P)
noncomputable def TB35 (P : Params) : BT := TB P (x156v35 P) (x157v35 P)
noncomputable def TB36 (P : Params) : BT := TB P (x156v36 P) (x157v36 P)
noncomputable def TB37 (P : Params) : BT := TB P (x156v37 P) (x157v37 P)
noncomputable def TB38 (P : Params) : BT := TB P (x156v38 P) (x157v38 P)
noncomputable def TB39 (P : Params) : BT := TB P (x156v39 P) (x157v39 P)
noncomputable def TB40 (P : Params) : BT := TB P (x156v40 P) (x157v40 P)
noncomputable def TB41 (P : Params) : BT := TB P (x156v41 P) (x157v41 P)
noncomputable def TB42 (P : Params) : BT := TB P (x156v42 P) (x157v42 P)
noncomputable def TB43 (P : Params) : BT := TB P (x156v43 P) (x157v43 P)
noncomputable def TB44 (P : Params) : BT := TB P (x156v44 P) (x157v44 P)
noncomputable def TB45 (P : Params) : BT := TB P (x156v45 P) (x157v45 P)
noncomputable def TB46 (P : Params) : BT := TB P (x156v46 P) (x157v46 P)
noncomputable def TB47 (P : Params) : BT := TB P (x156v47 P) (x157v47 P)
noncomputable def TB48 (P : Params) : BT := TB P (x156v48 P) (x157v48 P)
noncomputable def TB49 (P : Params) : BT := TB P (x156v49 P) (x157v49 P)
noncomputable def TB50 (P : Params) : BT := TB P (x156v50 P) (x157v50 P)
noncomputable def TB51 (P : Params) : BT := TB P (x156v51 P) (x157v51 P)
noncomputable def TB52 (P : Params) : BT := TB P (x156v52 P) (x157v52 P)
noncomputable def TB53 (P : Params) : BT := TB P (x156v53 P) (x157v53 P)
noncomputable def TB54 (P : Params) : BT := TB P (x156v54 P) (x157v54 P)
noncomputable def TB55 (P : Params) : BT := TB P (x156v55 P) (x157v55 P)
noncomputable def TB56 (P : Params) : BT := TB P (x156v56 P) (x157v56 P)
noncomputable def TB57 (P : Params) : BT := TB P (x156v57 P) (x157v57 P)
noncomputable def TB58 (P : Params) : BT := TB P (x156v58 P) (x157v58 P)
noncomputable def TB59 (P : Params) : BT := TB P (x156v59 P) (x157v59 P)
noncomputable def TB60 (P : Params) : BT := TB P (x156v60 P) (x157v60 P)
noncomputable def TB61 (P : Params) : BT := TB P (x156v61 P) (x157v61 P)
noncomputable def TB62 (P : Params) : BT := TB P (x156v62 P) (x157v62 P)
noncomputable def TB63 (P : Params) : BT := TB P (x156v63 P) (x157v63 P)
noncomputable def TB64 (P : Params) : BT := TB P (x156v64 P) (x157v64 P)
noncomputable def TB65 (P : Params) : BT := TB P (x156v65 P) (x157v65 P)
noncomputable def TB66 (P : Params) : BT := TB P (x156v66 P) (x157v66 P)
noncomputable def TB67 (P : Params) : BT := TB P (x156v67 P) (x157v67 P)
noncomputable def TB68 (P : Params) : BT := TB P (x156v68 P) (x157v68 P)
noncomputable def TB69 (P : Params) : BT := TB P (x156v69 P) (x157v69 P)
noncomputable def TB70 (P : Params) : BT := TB P (x156v70 P) (x157v70 P)
noncomputable def TB71 (P : Params) : BT := TB P (x156v71 P) (x157v71 P)
noncomputable def TB72 (P : Params) : BT := TB P (x156v72 P) (x157v72 P)
noncomputable def TB73 (P : Params) : BT := TB P (x156v73 P) (x157v73 P)
noncomputable def TB74 (P : Params) : BT := TB P (x156v74 P) (x157v74 P)
noncomputable def TB75 (P : Params) : BT := TB P (x156v75 P) (x157v75 P)
noncomputable def TB76 (P : Params) : BT := TB P (x156v76 P) (x157v76 P)
noncomputable def TB77 (P : Params) : BT := TB P (x156v77 P) (x157v77 P)
noncomputable def TB78 (P : Params) : BT := TB P (x156v78 P) (x157v78 P)
noncomputable def TB79 (P : Params) : BT := TB P (x156v79 P) (x157v79 P)
noncomputable def TB80 (P : Params) : BT := TB P (x156v80 P) (x157v80 P)
noncomputable def TB81 (P : Params) : BT := TB P (x156v81 P) (x157v81 P)
noncomputable def TB82 (P : Params) : BT := TB P (x156v82 P) (x157v82 P)
noncomputable def TB83 (P : Params) : BT := TB P (x156v83 P) (x157v83 P)
noncomputable def TB84 (P : Params) : BT := TB P (x156v84 P) (x157v84 P)
noncomputable def TB85 (P : Params) : BT := TB P (x156v85 P) (x157v85 P)
noncomputable def TB86 (P : Params) : BT := TB P (x156v86 P) (x157v86 P)
noncomputable def TB87 (P : Params) : BT := TB P (x156v87 P) (x157v87 P)
noncomputable def TB88 (P : Params) : BT := TB P (x156v88 P) (x157v88 P)
noncomputable def TB89 (P : Params) : BT := TB P (x156v89 P) (x157v89 P)
noncomputable def TB90 (P : Params) : BT := TB P (x156v90 P) (x157v90 P)
noncomputable def TB91 (P : Params) : BT := TB P (x156v91 P) (x157v91 P)
noncomputable def TB92 (P : Params) : BT := TB P (x156v92 P) (x157v92 P)
noncomputable def TB93 (P : Params) : BT := TB P (x156v93 P) (x157v93 P)
noncomputable def TB94 (P : Params) : BT := TB P (x156v94 P) (x157v94 P)
noncomputable def TB95 (P : Params) : BT := TB P (x156v95 P) (x157v95 P)
noncomputable def TB96 (P : Params) : BT := TB P (x156v96 P) (x157v96 P)
noncomputable def TB97 (P : Params) : BT := TB P (x156v97 P) (x157v97 P)
noncomputable def T12 (P : Params) : BT := (.node (boot_o_0 P) (.node (boot_o_1 P) (.node (x3v8 P) (.node (boot_o_7 P) (.node (x15v0 P) (.node (x31v0 P) (.node (x63v0 P) (.node (x127v0 P) .nil .nil) .nil) (.node (x95v0 P) (.node (x159v0 P) .nil .nil) .nil)) (.node (x47v0 P) (.node (x79v0 P) (.node (x143v0 P) .nil .nil) .nil) (.node (x111v0 P) .nil .nil))) (.node (x23v0 P) (.node (x39v0 P) (.node (x71v0 P) (.node (x135v0 P) .nil .nil) .nil) (.node (x103v0 P) .nil .nil)) (.node (x55v0 P) (.node (x87v0 P) (.node (x151v4 P) .nil .nil) .nil) (.node (x119v0 P) .nil .nil)))) (.node (x11v0 P) (.node (x19v0 P) (.node (x35v0 P) (.node (x67v0 P) (.node (x131v0 P) .nil .nil) .nil) (.node (x99v0 P) .nil .nil)) (.node (x51v0 P) (.node (x83v0 P) (.node (x147v0 P) .nil .nil) .nil) (.node (x115v0 P) .nil .nil))) (.node (x27v0 P) (.node (x43v0 P) (.node (x75v0 P) (.node (x139v0 P) .nil .nil) .nil) (.node (x107v0 P) .nil .nil)) (.node (x59v0 P) (.node (x91v0 P) (.node (x155v0 P) .nil .nil) .nil) (.node (x123v0 P) .nil .nil))))) (.node (boot_o_5 P) (.node (boot_o_9 P) (.node (x17v0 P) (.node (x33v0 P) (.node (x65v0 P) (.node (x129v0 P) .nil .nil) .nil) (.node (x97v0 P) .nil .nil)) (.node (x49v0 P) (.node (x81v0 P) (.node (x145v0 P) .nil .nil) .nil) (.node (x113v0 P) .nil .nil))) (.node (x25v0 P) (.node (x41v0 P) (.node (x73v0 P) (.node (x137v0 P) .nil .nil) .nil) (.node (x105v0 P) .nil .nil)) (.node (x57v0 P) (.node (x89v0 P) (.node (x153v0 P) .nil .nil) .nil) (.node (x121v0 P) .nil .nil)))) (.node (x13v0 P) (.node (x21v0 P) (.node (x37v0 P) (.node (x69v0 P) (.node (x133v0 P) .nil .nil) .nil) (.node (x101v0 P) .nil .nil)) (.node (x53v0 P) (.node (x85v0 P) (.node (x149v0 P) .nil .nil) .nil) (.node (x117v0 P) .nil .nil))) (.node (x29v0 P) (.node (x45v0 P) (.node (x77v0 P) (.node (x141v0 P) .nil .nil) .nil) (.node (x109v0 P) .nil .nil)) (.node (x61v0 P) (.node (x93v0 P) (.node (x157v98 P) .nil .nil) .nil) (.node (x125v0 P) .nil .nil)))))) (.node (boot_o_2 P) (.node (boot_o_4 P) (.node (boot_o_8 P) (.node (x16v0 P) (.node (x32v0 P) (.node (x64v0 P) (.node (x128v0 P) .nil .nil) .nil) (.node (x96v0 P) .nil .nil)) (.node (x48v0 P) (.node (x80v0 P) (.node (x144v0 P) .nil .nil) .nil) (.node (x112v0 P) .nil .nil))) (.node (x24v0 P) (.node (x40v0 P) (.node (x72v0 P) (.node (x136v0 P) .nil .nil) .nil) (.node (x104v0 P) .nil .nil)) (.node (x56v0 P) (.node (x88v0 P) (.node (x152v4 P) .nil .nil) .nil) (.node (x120v0 P) .nil .nil)))) (.node (x12v5 P) (.node (x20v0 P) (.node (x36v0 P) (.node (x68v0 P) (.node (x132v0 P) .nil .nil) .nil) (.node (x100v0 P) .nil .nil)) (.node (x52v0 P) (.node (x84v0 P) (.node (x148v0 P) .nil .nil) .nil) (.node (x116v0 P) .nil .nil))) (.node (x28v0 P) (.node (x44v0 P) (.node (x76v0 P) (.node (x140v0 P) .nil .nil) .nil) (.node (x108v0 P) .nil .nil)) (.node (x60v0 P) (.node (x92v0 P) (.node (x156v97 P) .nil .nil) .nil) (.node (x124v0 P) .nil .nil))))) (.node (boot_o_6 P) (.node (boot_o_10 P) (.node (x18v0 P) (.node (x34v0 P) (.node (x66v0 P) (.node (x130v0 P) .nil .nil) .nil) (.node (x98v0 P) .nil .nil)) (.node (x50v0 P) (.node (x82v0 P) (.node (x146v0 P) .nil .nil) .nil) (.node (x114v0 P) .nil .nil))) (.node (x26v0 P) (.node (x42v0 P) (.node (x74v0 P) (.node (x138v0 P) .nil .nil) .nil) (.node (x106v0 P) .nil .nil)) (.node (x58v0 P) (.node (x90v0 P) (.node (x154v0 P) .nil .nil) .nil) (.node (x122v0 P) .nil .nil)))) (.node (x14v0 P) (.node (x22v0 P) (.node (x38v0 P) (.node (x70v0 P) (.node (x134v0 P) .nil .nil) .nil) (.node (x102v0 P) .nil .nil)) (.node (x54v0 P) (.node (x86v0 P) (.node (x150v0 P) .nil .nil) .nil) (.node (x118v0 P) .nil .nil))) (.node (x30v0 P) (.node (x46v0 P) (.node (x78v0 P) (.node (x142v0 P) .nil .nil) .nil) (.node (x110v0 P) .nil .nil)) (.node (x62v0 P) (.node (x94v0 P) (.node (x158v0 P) .nil .nil) .nil) (.node (x126v0 P) .nil .nil)))))))
noncomputable def T20 (P : Params) : BT := (.node (boot_o_0 P) (.node (boot_o_1 P) (.node (x3v9 P) (.node (boot_o_7 P) (.node (x15v0 P) (.node (x31v0 P) (.node (x63v0 P) (.node (x127v0 P) .nil .nil) (.node (x191v0 P) .nil .nil)) (.node (x95v0 P) (.node (x159v0 P) .nil .nil) .nil)) (.node (x47v0 P) (.node (x79v0 P) (.node (x143v0 P) .nil .nil) .nil) (.node (x111v0 P) (.node (x175v0 P) .nil .nil) .nil))) (.node (x23v0 P) (.node (x39v0 P) (.node (x71v0 P) (.node (x135v0 P) .nil .nil) (.node (x199v0 P) .nil .nil)) (.node (x103v0 P) (.node (x167v0 P) .nil .nil) .nil)) (.node (x55v0 P) (.node (x87v0 P) (.node (x151v4 P) .nil .nil) .nil) (.node (x119v0 P) (.node (x183v0 P) .nil .nil) .nil)))) (.node (x11v0 P) (.node (x19v0 P) (.node (x35v0 P) (.node (x67v0 P) (.node (x131v0 P) .nil .nil) (.node (x195v0 P) .nil .nil)) (.node (x99v0 P) (.node (x163v0 P) .nil .nil) .nil)) (.node (x51v0 P) (.node (x83v0 P) (.node (x147v0 P) .nil .nil) .nil) (.node (x115v0 P) (.node (x179v0 P) .nil .nil) .nil))) (.node (x27v0 P) (.node (x43v0 P) (.node (x75v0 P) (.node (x139v0 P) .nil .nil) (.node (x203v0 P) .nil .nil)) (.node (x107v0 P) (.node (x171v0 P) .nil .nil) .nil)) (.node (x59v0 P) (.node (x91v0 P) (.node (x155v0 P) .nil .nil) .nil) (.node (x123v0 P) (.node (x187v0 P) .nil .nil) .nil))))) (.node (boot_o_5 P) (.node (boot_o_9 P) (.node (x17v0 P) (.node (x33v0 P) (.node (x65v0 P) (.node (x129v0 P) .nil .nil) (.node (x193v0 P) .nil .nil)) (.node (x97v0 P) (.node (x161v0 P) .nil .nil) .nil)) (.node (x49v0 P) (.node (x81v0 P) (.node (x145v0 P) .nil .nil) .nil) (.node (x113v0 P) (.node (x177v0 P) .nil .nil) .nil))) (.node (x25v0 P) (.node (x41v0 P) (.node (x73v0 P) (.node (x137v0 P) .nil .nil) (.node (x201v0 P) .nil .nil)) (.node (x105v0 P) (.node (x169v0 P) .nil .nil) .nil)) (.node (x57v0 P) (.node (x89v0 P) (.node (x153v0 P) .nil .nil) .nil) (.node (x121v0 P) (.node (x185v0 P) .nil .nil) .nil)))) (.node (x13v0 P) (.node (x21v0 P) (.node (x37v0 P) (.node (x69v0 P) (.node (x133v0 P) .nil .nil) (.node (x197v0 P) .nil .nil)) (.node (x101v0 P) (.node (x165v0 P) .nil .nil) .nil)) (.node (x53v0 P) (.node (x85v0 P) (.node (x149v0 P) .nil .nil) .nil) (.node (x117v0 P) (.node (x181v0 P) .nil .nil) .nil))) (.node (x29v0 P) (.node (x45v0 P) (.node (x77v0 P) (.node (x141v0 P) .nil .nil) .nil) (.node (x109v0 P) (.node (x173v0 P) .nil .nil) .nil)) (.node (x61v0 P) (.node (x93v0 P) (.node (x157v98 P) .nil .nil) .nil) (.node (x125v0 P) (.node (x189v0 P) .nil .nil) .nil)))))) (.node (boot_o_2 P) (.node (boot_o_4 P) (.node (boot_o_8 P) (.node (x16v0 P) (.node (x32v0 P) (.node (x64v0 P) (.node (x128v0 P) .nil .nil) (.node (x192v0 P) .nil .nil)) (.node (x96v0 P) (.node (x160v0 P) .nil .nil) .nil)) (.node (x48v0 P) (.node (x80v0 P) (.node (x144v0 P) .nil .nil) .nil) (.node (x112v0 P) (.node (x176v0 P) .nil .nil) .nil))) (.node (x24v0 P) (.node (x40v0 P) (.node (x72v0 P) (.node (x136v0 P) .nil .nil) (.node (x200v0 P) .nil .nil)) (.node (x104v0 P) (.node (x168v0 P) .nil .nil) .nil)) (.node (x56v0 P) (.node (x88v0 P) (.node (x152v4 P) .nil .nil) .nil) (.node (x120v0 P) (.node (x184v0 P) .nil .nil) .nil)))) (.node (x12v6 P) (.node (x20v0 P) (.node (x36v0 P) (.node (x68v0 P) (.node (x132v0 P) .nil .nil) (.node (x196v0 P) .nil .nil)) (.node (x100v0 P) (.node (x164v0 P) .nil .nil) .nil)) (.node (x52v0 P) (.node (x84v0 P) (.node (x148v0 P) .nil .nil) .nil) (.node (x116v0 P) (.node (x180v0 P) .nil .nil) .nil))) (.node (x28v0 P) (.node (x44v0 P) (.node (x76v0 P) (.node (x140v0 P) .nil .nil) (.node (x204v0 P) .nil .nil)) (.node (x108v0 P) (.node (x172v0 P) .nil .nil) .nil)) (.node (x60v0 P) (.node (x92v0 P) (.node (x156v97 P) .nil .nil) .nil) (.node (x124v0 P) (.node (x188v0 P) .nil .nil) .nil))))) (.node (boot_o_6 P) (.node (boot_o_10 P) (.node (x18v0 P) (.node (x34v0 P) (.node (x66v0 P) (.node (x130v0 P) .nil .nil) (.node (x194v0 P) .nil .nil)) (.node (x98v0 P) (.node (x162v0 P) .nil .nil) .nil)) (.node (x50v0 P) (.node (x82v0 P) (.node (x146v0 P) .nil .nil) .nil) (.node (x114v0 P) (.node (x178v0 P) .nil .nil) .nil))) (.node (x26v0 P) (.node (x42v0 P) (.node (x74v0 P) (.node (x138v0 P) .nil .nil) (.node (x202v0 P) .nil .nil)) (.node (x106v0 P) (.node (x170v0 P) .nil .nil) .nil)) (.node (x58v0 P) (.node (x90v0 P) (.node (x154v0 P) .nil .nil) .nil) (.node (x122v0 P) (.node (x186v0 P) .nil .nil) .nil)))) (.node (x14v0 P) (.node (x22v0 P) (.node (x38v0 P) (.node (x70v0 P) (.node (x134v0 P) .nil .nil) (.node (x198v0 P) .nil .nil)) (.node (x102v0 P) (.node (x166v0 P) .nil .nil) .nil)) (.node (x54v0 P) (.node (x86v0 P) (.node (x150v0 P) .nil .nil) .nil) (.node (x118v0 P) (.node (x182v0 P) .nil .nil) .nil))) (.node (x30v0 P) (.node (x46v0 P) (.node (x78v0 P) (.node (x142v0 P) .nil .nil) .nil) (.node (x110v0 P) (.node (x174v0 P) .nil .nil) .nil)) (.node (x62v0 P) (.node (x94v0 P) (.node (x158v0 P) .nil .nil) .nil) (.node (x126v0 P) (.node (x190v0 P) .nil .nil) .nil)))))))
noncomputable def H20 (P : Params) : Heap := ⟨#[(boot_o_0 P), (boot_o_1 P), (boot_o_2 P), (x3v9 P), (boot_o_4 P), (boot_o_5 P), (boot_o_6 P), (boot_o_7 P), (boot_o_8 P), (boot_o_9 P), (boot_o_10 P), (x11v0 P), (x12v6 P), (x13v0 P), (x14v0 P), (x15v0 P), (x16v0 P), (x17v0 P), (x18v0 P), (x19v0 P), (x20v0 P), (x21v0 P), (x22v0 P), (x23v0 P), (x24v0 P), (x25v0 P), (x26v0 P), (x27v0 P), (x28v0 P), (x29v0 P), (x30v0 P), (x31v0 P), (x32v0 P), (x33v0 P), (x34v0 P), (x35v0 P), (x36v0 P), (x37v0 P), (x38v0 P), (x39v0 P), (x40v0 P), (x41v0 P), (x42v0 P), (x43v0 P), (x44v0 P), (x45v0 P), (x46v0 P), (x47v0 P), (x48v0 P), (x49v0 P), (x50v0 P), (x51v0 P), (x52v0 P), (x53v0 P), (x54v0 P), (x55v0 P), (x56v0 P), (x57v0 P), (x58v0 P), (x59v0 P), (x60v0 P), (x61v0 P), (x62v0 P), (x63v0 P), (x64v0 P), (x65v0 P), (x66v0 P), (x67v0 P), (x68v0 P), (x69v0 P), (x70v0 P), (x71v0 P), (x72v0 P), (x73v0 P), (x74v0 P), (x75v0 P), (x76v0 P), (x77v0 P), (x78v0 P), (x79v0 P), (x80v0 P), (x81v0 P), (x82v0 P), (x83v0 P), (x84v0 P), (x85v0 P), (x86v0 P), (x87v0 P), (x88v0 P), (x89v0 P), (x90v0 P), (x91v0 P), (x92v0 P), (x93v0 P), (x94v0 P), (x95v0 P), (x96v0 P), (x97v0 P), (x98v0 P), (x99v0 P), (x100v0 P), (x101v0 P), (x102v0 P), (x103v0 P), (x104v0 P), (x105v0 P), (x106v0 P), (x107v0 P), (x108v0 P), (x109v0 P), (x110v0 P), (x111v0 P), (x112v0 P), (x113v0 P), (x114v0 P), (x115v0 P), (x116v0 P), (x117v0 P), (x118v0 P), (x119v0 P), (x120v0 P), (x121v0 P), (x122v0 P), (x123v0 P), (x124v0 P), (x125v0 P), (x126v0 P), (x127v0 P), (x128v0 P), (x129v0 P), (x130v0 P), (x131v0 P), (x132v0 P), (x133v0 P), (x134v0 P), (x135v0 P), (x136v0 P), (x137v0 P), (x138v0 P), (x139v0 P), (x140v0 P), (x141v0 P), (x142v0 P), (x143v0 P), (x144v0 P), (x145v0 P), (x146v0 P), (x147v0 P), (x148v0 P), (x149v0 P), (x150v0 P), (x151v4 P), (x152v4 P), (x153v0 P), (x154v0 P), (x155v0 P), (x156v97 P), (x157v98 P), (x158v0 P), (x159v0 P), (x160v0 P), (x161v0 P), (x162v0 P), (x163v0 P), (x164v0 P), (x165v0 P), (x166v0 P), (x167v0 P), (x168v0 P), (x169v0 P), (x170v0 P), (x171v0 P), (x172v0 P), (x173v0 P), (x174v0 P), (x175v0 P), (x176v0 P), (x177v0 P), (x178v0 P), (x179v0 P), (x180v0 P), (x181v0 P), (x182v0 P), (x183v0 P), (x184v0 P), (x185v0 P), (x186v0 P), (x187v0 P), (x188v0 P), (x189v0 P), (x190v0 P), (x191v0 P), (x192v0 P), (x193v0 P), (x194v0 P), (x195v0 P), (x196v0 P), (x197v0 P), (x198v0 P), (x199v0 P), (x200v0 P), (x201v0 P), (x202v0 P), (x203v0 P), (x204v0 P)], (boot_heap P).life⟩
noncomputable def Kas : List Addr := [2, 3, 15, 17, 18, 20, 21, 22, 25, 30, 31, 32, 34, 35, 37, 38, 39, 41, 42, 44, 45, 46, 47, 49, 50, 52, 53, 54, 55, 57, 58, 60, 61, 62, 64, 65, 67, 68, 69, 71, 72, 74, 75, 76, 77, 79, 80, 82, 83, 84, 86, 87, 89, 90, 91, 92, 94, 95, 97, 98, 99, 100, 101, 102, 103, 106, 108, 109, 111, 112, 114, 118, 120, 121, 123, 124, 138, 142, 144, 145, 147, 148, 156, 160, 162, 163, 165, 166, 167, 169, 170, 172, 173, 174, 176, 177, 179, 180, 181, 183, 184, 186, 187, 188, 191, 192, 193, 195, 196, 198, 199, 200, 203, 204]
noncomputable def Kf (P : Params) : Frag := (nat_lit 2, (boot_o_2 P)) :: (nat_lit 3, (x3v9 P)) :: (nat_lit 15, (x15v0 P)) :: (nat_lit 17, (x17v0 P)) :: (nat_lit 18, (x18v0 P)) :: (nat_lit 20, (x20v0 P)) :: (nat_lit 21, (x21v0 P)) :: (nat_lit 22, (x22v0 P)) :: (nat_lit 25, (x25v0 P)) :: (nat_lit 30, (x30v0 P)) :: (nat_lit 31, (x31v0 P)) :: (nat_lit 32, (x32v0 P)) :: (nat_lit 34, (x34v0 P)) :: (nat_lit 35, (x35v0 P)) :: (nat_lit 37, (x37v0 P)) :: (nat_lit 38, (x38v0 P)) :: (nat_lit 39, (x39v0 P)) :: (nat_lit 41, (x41v0 P)) :: (nat_lit 42, (x42v0 P)) :: (nat_lit 44, (x44v0 P)) :: (nat_lit 45, (x45v0 P)) :: (nat_lit 46, (x46v0 P)) :: (nat_lit 47, (x47v0 P)) :: (nat_lit 49, (x49v0 P)) :: (nat_lit 50, (x50v0 P)) :: (nat_lit 52, (x52v0 P)) :: (nat_lit 53, (x53v0 P)) :: (nat_lit 54, (x54v0 P)) :: (nat_lit 55, (x55v0 P)) :: (nat_lit 57, (x57v0 P)) :: (nat_lit 58, (x58v0 P)) :: (nat_lit 60, (x60v0 P)) :: (nat_lit 61, (x61v0 P)) :: (nat_lit 62, (x62v0 P)) :: (nat_lit 64, (x64v0 P)) :: (nat_lit 65, (x65v0 P)) :: (nat_lit 67, (x67v0 P)) :: (nat_lit 68, (x68v0 P)) :: (nat_lit 69, (x69v0 P)) :: (nat_lit 71, (x71v0 P)) :: (nat_lit 72, (x72v0 P)) :: (nat_lit 74, (x74v0 P)) :: (nat_lit 75, (x75v0 P)) :: (nat_lit 76, (x76v0 P)) :: (nat_lit 77, (x77v0 P)) :: (nat_lit 79, (x79v0 P)) :: (nat_lit 80, (x80v0 P)) :: (nat_lit 82, (x82v0 P)) :: (nat_lit 83, (x83v0 P)) :: (nat_lit 84, (x84v0 P)) :: (nat_lit 86, (x86v0 P)) :: (nat_lit 87, (x87v0 P)) :: (nat_lit 89, (x89v0 P)) :: (nat_lit 90, (x90v0 P)) :: (nat_lit 91, (x91v0 P)) :: (nat_lit 92, (x92v0 P)) :: (nat_lit 94, (x94v0 P)) :: (nat_lit 95, (x95v0 P)) :: (nat_lit 97, (x97v0 P)) :: (nat_lit 98, (x98v0 P)) :: (nat_lit 99, (x99v0 P)) :: (nat_lit 100, (x100v0 P)) :: (nat_lit 101, (x101v0 P)) :: (nat_lit 102, (x102v0 P)) :: (nat_lit 103, (x103v0 P)) :: (nat_lit 106, (x106v0 P)) :: (nat_lit 108, (x108v0 P)) :: (nat_lit 109, (x109v0 P)) :: (nat_lit 111, (x111v0 P)) :: (nat_lit 112, (x112v0 P)) :: (nat_lit 114, (x114v0 P)) :: (nat_lit 118, (x118v0 P)) :: (nat_lit 120, (x120v0 P)) :: (nat_lit 121, (x121v0 P)) :: (nat_lit 123, (x123v0 P)) :: (nat_lit 124, (x124v0 P)) :: (nat_lit 138, (x138v0 P)) :: (nat_lit 142, (x142v0 P)) :: (nat_lit 144, (x144v0 P)) :: (nat_lit 145, (x145v0 P)) :: (nat_lit 147, (x147v0 P)) :: (nat_lit 148, (x148v0 P)) :: (nat_lit 156, (x156v97 P)) :: (nat_lit 160, (x160v0 P)) :: (nat_lit 162, (x162v0 P)) :: (nat_lit 163, (x163v0 P)) :: (nat_lit 165, (x165v0 P)) :: (nat_lit 166, (x166v0 P)) :: (nat_lit 167, (x167v0 P)) :: (nat_lit 169, (x169v0 P)) :: (nat_lit 170, (x170v0 P)) :: (nat_lit 172, (x172v0 P)) :: (nat_lit 173, (x173v0 P)) :: (nat_lit 174, (x174v0 P)) :: (nat_lit 176, (x176v0 P)) :: (nat_lit 177, (x177v0 P)) :: (nat_lit 179, (x179v0 P)) :: (nat_lit 180, (x180v0 P)) :: (nat_lit 181, (x181v0 P)) :: (nat_lit 183, (x183v0 P)) :: (nat_lit 184, (x184v0 P)) :: (nat_lit 186, (x186v0 P)) :: (nat_lit 187, (x187v0 P)) :: (nat_lit 188, (x188v0 P)) :: (nat_lit 191, (x191v0 P)) :: (nat_lit 192, (x192v0 P)) :: (nat_lit 193, (x193v0 P)) :: (nat_lit 195, (x195v0 P)) :: (nat_lit 196, (x196v0 P)) :: (nat_lit 198, (x198v0 P)) :: (nat_lit 199, (x199v0 P)) :: (nat_lit 200, (x200v0 P)) :: (nat_lit 203, (x203v0 P)) :: (nat_lit 204, (x204v0 P)) :: []
noncomputable def anns : Option Value := some (.ref 6)
noncomputable def S0 (w : World) (os : OsState) : SharedT := ⟨T0 w.params, 15, (boot_heap w.params).life, #[], boot_drawn, 187, os⟩
noncomputable def pos0 : Pos := ⟨0, 0, 0, 0⟩
noncomputable def S3 (w : World) (os : OsState) : SharedT := ⟨T3 w.params, 22, (boot_heap w.params).life, #[], boot_drawn, 198, os⟩
noncomputable def pos3 : Pos := ⟨5, 0, 5, 11⟩
noncomputable def S4 (w : World) (os : OsState) : SharedT := ⟨T4 w.params, 106, (boot_heap w.params).life, #[], boot_drawn, 293, os⟩
noncomputable def pos4 : Pos := ⟨6, 0, 36, 32⟩
noncomputable def S7 (w : World) (os : OsState) : SharedT := ⟨T7 w.params, 113, (boot_heap w.params).life, #[], boot_drawn, 305, os⟩
noncomputable def pos7 : Pos := ⟨40, 0, 40, 8⟩
noncomputable def S8 (w : World) (os : OsState) : SharedT := ⟨T8 w.params, 118, (boot_heap w.params).life, #[], boot_drawn, 333, os⟩
noncomputable def pos8 : Pos := ⟨41, 0, 41, 6⟩
noncomputable def S9 (w : World) (os : OsState) : SharedT := ⟨T9 w.params, 125, (boot_heap w.params).life, #[], boot_drawn, 340, os⟩
noncomputable def pos9 : Pos := ⟨42, 0, 43, 30⟩
noncomputable def S10 (w : World) (os : OsState) : SharedT := ⟨T10 w.params, 142, (boot_heap w.params).life, #[], boot_drawn, 381, os⟩
noncomputable def pos10 : Pos := ⟨44, 0, 44, 6⟩
noncomputable def S11 (w : World) (os : OsState) : SharedT := ⟨T11 w.params, 149, (boot_heap w.params).life, #[], boot_drawn, 388, os⟩
noncomputable def pos11 : Pos := ⟨45, 0, 46, 30⟩
noncomputable def SA0 (w : World) (os : OsState) : SharedT := ⟨TA0 w.params, 153, (boot_heap w.params).life, #[], boot_drawn, 394, os⟩
noncomputable def posA0 : Pos := ⟨47, 24, 47, 51⟩
noncomputable def SA1 (w : World) (os : OsState) : SharedT := ⟨TA1 w.params, 153, (boot_heap w.params).life, #[], boot_drawn, 418, os⟩
noncomputable def posA1 : Pos := ⟨47, 24, 47, 51⟩
noncomputable def SA2 (w : World) (os : OsState) : SharedT := ⟨TA2 w.params, 153, (boot_heap w.params).life, #[], boot_drawn, 442, os⟩
noncomputable def posA2 : Pos := ⟨47, 24, 47, 51⟩
noncomputable def SA3 (w : World) (os : OsState) : SharedT := ⟨TA3 w.params, 153, (boot_heap w.params).life, #[], boot_drawn, 466, os⟩
noncomputable def posA3 : Pos := ⟨47, 24, 47, 51⟩
noncomputable def SA4 (w : World) (os : OsState) : SharedT := ⟨TA4 w.params, 153, (boot_heap w.params).life, #[], boot_drawn, 490, os⟩
noncomputable def posA4 : Pos := ⟨47, 24, 47, 51⟩
noncomputable def SB0 (w : World) (os : OsState) : SharedT := ⟨TB0 w.params, 158, (boot_heap w.params).life, #[], boot_drawn, 490, os⟩
noncomputable def posB0 : Pos := ⟨47, 9, 47, 52⟩
noncomputable def SB1 (w : World) (os : OsState) : SharedT := ⟨TB1 w.params, 158, (boot_heap w.params).life, #[], boot_drawn, 491, os⟩
noncomputable def posB1 : Pos := ⟨47, 9, 47, 52⟩
noncomputable def SB2 (w : World) (os : OsState) : SharedT := ⟨TB2 w.params, 158, (boot_heap w.params).life, #[], boot_drawn, 492, os⟩
noncomputable def posB2 : Pos := ⟨47, 9, 47, 52⟩
noncomputable def SB3 (w : World) (os : OsState) : SharedT := ⟨TB3 w.params, 158, (boot_heap w.params).life, #[], boot_drawn, 493, os⟩
noncomputable def posB3 : Pos := ⟨47, 9, 47, 52⟩
noncomputable def SB4 (w : World) (os : OsState) : SharedT := ⟨TB4 w.params, 158, (boot_heap w.params).life, #[], boot_drawn, 494, os⟩
noncomputable def posB4 : Pos := ⟨47, 9, 47, 52⟩
noncomputable def SB5 (w : World) (os : OsState) : SharedT := ⟨TB5 w.params, 158, (boot_heap w.params).life, #[], boot_drawn, 495, os⟩
noncomputable def posB5 : Pos := ⟨47, 9, 47, 52⟩
noncomputable def SB6 (w : World) (os : OsState) : SharedT := ⟨TB6 w.params, 158, (boot_heap w.params).life, #[], boot_drawn, 496, os⟩
noncomputable def posB6 : Pos := ⟨47, 9, 47, 52⟩
noncomputable def SB7 (w : World) (os : OsState) : SharedT := ⟨TB7 w.params, 158, (boot_heap w.params).life, #[], boot_drawn, 497, os⟩
noncomputable def posB7 : Pos := ⟨47, 9, 47, 52⟩
noncomputable def SB8 (w : World) (os : OsState) : SharedT := ⟨TB8 w.params, 158, (boot_heap w.params).life, #[], boot_drawn, 498, os⟩
noncomputable def posB8 : Pos := ⟨47, 9, 47, 52⟩
noncomputable def SB9 (w : World) (os : OsState) : SharedT := ⟨TB9 w.params, 158, (boot_heap w.params).life, #[], boot_drawn, 499, os⟩
noncomputable def posB9 : Pos := ⟨47, 9, 47, 52⟩
noncomputable def SB10 (w : World) (os : OsState) : SharedT := ⟨TB10 w.params, 158, (boot_heap w.params).life, #[], boot_drawn, 500, os⟩
noncomputable def posB10 : Pos := ⟨47, 9, 47, 52⟩
noncomputable def SB11 (w : World) (os : OsState) : SharedT := ⟨TB11 w.params, 158, (boot_heap w.params).life, #[], boot_drawn, 501, os⟩
noncomputable def posB11 : Pos := ⟨47, 9, 47, 52⟩
noncomputable def SB12 (w : World) (os : OsState) : SharedT := ⟨TB12 w.params, 158, (boot_heap w.params).life, #[], boot_drawn, 502, os⟩
noncomputable def posB12 : Pos := ⟨47, 9, 47, 52⟩
noncomputable def SB13 (w : World) (os : OsState) : SharedT := ⟨TB13 w.params, 158, (boot_heap w.params).life, #[], boot_drawn, 503, os⟩
noncomputable def posB13 : Pos := ⟨47, 9, 47, 52⟩
noncomputable def SB14 (w : World) (os : OsState) : SharedT := ⟨TB14 w.params, 158, (boot_heap w.params).life, #[], boot_drawn, 504, os⟩
noncomputable def posB14 : Pos := ⟨47, 9, 47, 52⟩
noncomputable def SB15 (w : World) (os : OsState) : SharedT := ⟨TB15 w.params, 158, (boot_heap w.params).life, #[], boot_drawn, 505, os⟩
noncomputable def posB15 : Pos := ⟨47, 9, 47, 52⟩
noncomputable def SB16 (w : World) (os : OsState) : SharedT := ⟨TB16 w.params, 158, (boot_heap w.params).life, #[], boot_drawn, 506, os⟩
noncomputable def posB16 : Pos := ⟨47, 9, 47, 52⟩
noncomputable def SB17 (w : World) (os : OsState) : SharedT := ⟨TB17 w.params, 158, (boot_heap w.params).life, #[], boot_drawn, 507, os⟩
noncomputable def posB17 : Pos := ⟨47, 9, 47, 52⟩
noncomputable def SB18 (w : World) (os : OsState) : SharedT := ⟨TB18 w.params, 158, (boot_heap w.params).life, #[], boot_drawn, 508, os⟩
noncomputable def posB18 : Pos := ⟨47, 9, 47, 52⟩
noncomputable def SB19 (w : World) (os : OsState) : SharedT := ⟨TB19 w.params, 158, (boot_heap w.params).life, #[], boot_drawn, 509, os⟩
noncomputable def posB19 : Pos := ⟨47, 9, 47, 52⟩
noncomputable def SB20 (w : World) (os : OsState) : SharedT := ⟨TB20 w.params, 158, (boot_heap w.params).life, #[], boot_drawn, 510, os⟩
noncomputable def posB20 : Pos := ⟨47, 9, 47, 52⟩
noncomputable def SB21 (w : World) (os : OsState) : SharedT := ⟨TB21 w.params, 158, (boot_heap w.params).life, #[], boot_drawn, 511, os⟩
noncomputable def posB21 : Pos := ⟨47, 9, 47, 52⟩
noncomputable def SB22 (w : World) (os : OsState) : SharedT := ⟨TB22 w.params, 158, (boot_heap w.params).life, #[], boot_drawn, 512, os⟩
noncomputable def posB22 : Pos := ⟨47, 9, 47, 52⟩
noncomputable def SB23 (w : World) (os : OsState) : SharedT := ⟨TB23 w.params, 158, (boot_heap w.params).life, #[], boot_drawn, 513, os⟩
noncomputable def posB23 : Pos := ⟨47, 9, 47, 52⟩
noncomputable def SB24 (w : World) (os : OsState) : SharedT := ⟨TB24 w.params, 158, (boot_heap w.params).life, #[], boot_drawn, 514, os⟩
noncomputable def posB24 : Pos := ⟨47, 9, 47, 52⟩
noncomputable def SB25 (w : World) (os : OsState) : SharedT := ⟨TB25 w.params, 158, (boot_heap w.params).life, #[], boot_drawn, 515, os⟩
noncomputable def posB25 : Pos := ⟨47, 9, 47, 52⟩
noncomputable def SB26 (w : World) (os : OsState) : SharedT := ⟨TB26 w.params, 158, (boot_heap w.params).life, #[], boot_drawn, 516, os⟩
noncomputable def posB26 : Pos := ⟨47, 9, 47, 52⟩
noncomputable def SB27 (w : World) (os : OsState) : SharedT := ⟨TB27 w.params, 158, (boot_heap w.params).life, #[], boot_drawn, 517, os⟩
noncomputable def posB27 : Pos := ⟨47, 9, 47, 52⟩
noncomputable def SB28 (w : World) (os : OsState) : SharedT := ⟨TB28 w.params, 158, (boot_heap w.params).life, #[], boot_drawn, 518, os⟩
noncomputable def posB28 : Pos := ⟨47, 9, 47, 52⟩
noncomputable def SB29 (w : World) (os : OsState) : SharedT := ⟨TB29 w.params, 158, (boot_heap w.params).life, #[], boot_drawn, 519, os⟩
noncomputable def posB29 : Pos := ⟨47, 9, 47, 52⟩
noncomputable def SB30 (w : World) (os : OsState) : SharedT := ⟨TB30 w.params, 158, (boot_heap w.params).life, #[], boot_drawn, 520, os⟩
noncomputable def posB30 : Pos := ⟨47, 9, 47, 52⟩
noncomputable def SB31 (w : World) (os : OsState) : SharedT := ⟨TB31 w.params, 158, (boot_heap w.params).life, #[], boot_drawn, 521, os⟩
noncomputable def posB31 : Pos := ⟨47, 9, 47, 52⟩
noncomputable def SB32 (w : World) (os : OsState) : SharedT := ⟨TB32 w.params, 158, (boot_heap w.params).life, #[], boot_drawn, 522, os⟩
noncomputable def posB32 : Pos := ⟨47, 9, 47, 52⟩
noncomputable def SB33 (w : World) (os : OsState) : SharedT := ⟨TB33 w.params, 158, (boot_heap w.params).life, #[], boot_drawn, 523, os⟩
noncomputable def posB33 : Pos := ⟨47, 9, 47, 52⟩
noncomputable def SB34 (w : World) (os : OsState) : SharedT := ⟨TB34 w.params, 158, (boot_heap w.params).life, #[], boot_drawn, 524, os⟩
noncomputable def posB34 : Pos := ⟨47, 9, 47, 52⟩
noncomputable def SB35 (w : World) (os : OsState) : SharedT := ⟨TB35 w.params, 158, (boot_heap w.params).life, #[], boot_drawn, 525, os⟩
noncomputable def posB35 : Pos := ⟨47, 9, 47, 52⟩
noncomputable def SB36 (w : World) (os : OsState) : SharedT := ⟨TB36 w.params, 158, (boot_heap w.params).life, #[], boot_drawn, 526, os⟩
noncomputable def posB36 : Pos := ⟨47, 9, 47, 52⟩
noncomputable def SB37 (w : World) (os : OsState) : SharedT := ⟨TB37 w.params, 158, (boot_heap w.params).life, #[], boot_drawn, 527, os⟩
noncomputable def posB37 : Pos := ⟨47, 9, 47, 52⟩
noncomputable def SB38 (w : World) (os : OsState) : SharedT := ⟨TB38 w.params, 158, (boot_heap w.params).life, #[], boot_drawn, 528, os⟩
noncomputable def posB38 : Pos := ⟨47, 9, 47, 52⟩
noncomputable def SB39 (w : World) (os : OsState) : SharedT := ⟨TB39 w.params, 158, (boot_heap w.params).life, #[], boot_drawn, 529, os⟩
noncomputable def posB39 : Pos := ⟨47, 9, 47, 52⟩
noncomputable def SB40 (w : World) (os : OsState) : SharedT := ⟨TB40 w.params, 158, (boot_heap w.params).life, #[], boot_drawn, 530, os⟩
noncomputable def posB40 : Pos := ⟨47, 9, 47, 52⟩
noncomputable def SB41 (w : World) (os : OsState) : SharedT := ⟨TB41 w.params, 158, (boot_heap w.params).life, #[], boot_drawn, 531, os⟩
noncomputable def posB41 : Pos := ⟨47, 9, 47, 52⟩
noncomputable def SB42 (w : World) (os : OsState) : SharedT := ⟨TB42 w.params, 158, (boot_heap w.params).life, #[], boot_drawn, 532, os⟩
noncomputable def posB42 : Pos := ⟨47, 9, 47, 52⟩
noncomputable def SB43 (w : World) (os : OsState) : SharedT := ⟨TB43 w.params, 158, (boot_heap w.params).life, #[], boot_drawn, 533, os⟩
noncomputable def posB43 : Pos := ⟨47, 9, 47, 52⟩
noncomputable def SB44 (w : World) (os : OsState) : SharedT := ⟨TB44 w.params, 158, (boot_heap w.params).life, #[], boot_drawn, 534, os⟩
noncomputable def posB44 : Pos := ⟨47, 9, 47, 52⟩
noncomputable def SB45 (w : World) (os : OsState) : SharedT := ⟨TB45 w.params, 158, (boot_heap w.params).life, #[], boot_drawn, 535, os⟩
noncomputable def posB45 : Pos := ⟨47, 9, 47, 52⟩
noncomputable def SB46 (w : World) (os : OsState) : SharedT := ⟨TB46 w.params, 158, (boot_heap w.params).life, #[], boot_drawn, 536, os⟩
noncomputable def posB46 : Pos := ⟨47, 9, 47, 52⟩
noncomputable def SB47 (w : World) (os : OsState) : SharedT := ⟨TB47 w.params, 158, (boot_heap w.params).life, #[], boot_drawn, 537, os⟩
noncomputable def posB47 : Pos := ⟨47, 9, 47, 52⟩
noncomputable def SB48 (w : World) (os : OsState) : SharedT := ⟨TB48 w.params, 158, (boot_heap w.params).life, #[], boot_drawn, 538, os⟩
noncomputable def posB48 : Pos := ⟨47, 9, 47, 52⟩
noncomputable def SB49 (w : World) (os : OsState) : SharedT := ⟨TB49 w.params, 158, (boot_heap w.params).life, #[], boot_drawn, 539, os⟩
noncomputable def posB49 : Pos := ⟨47, 9, 47, 52⟩
noncomputable def SB50 (w : World) (os : OsState) : SharedT := ⟨TB50 w.params, 158, (boot_heap w.params).life, #[], boot_drawn, 540, os⟩
noncomputable def posB50 : Pos := ⟨47, 9, 47, 52⟩
noncomputable def SB51 (w : World) (os : OsState) : SharedT := ⟨TB51 w.params, 158, (boot_heap w.params).life, #[], boot_drawn, 541, os⟩
noncomputable def posB51 : Pos := ⟨47, 9, 47, 52⟩
noncomputable def SB52 (w : World) (os : OsState) : SharedT := ⟨TB52 w.params, 158, (boot_heap w.params).life, #[], boot_drawn, 542, os⟩
noncomputable def posB52 : Pos := ⟨47, 9, 47, 52⟩
noncomputable def SB53 (w : World) (os : OsState) : SharedT := ⟨TB53 w.params, 158, (boot_heap w.params).life, #[], boot_drawn, 543, os⟩
noncomputable def posB53 : Pos := ⟨47, 9, 47, 52⟩
noncomputable def SB54 (w : World) (os : OsState) : SharedT := ⟨TB54 w.params, 158, (boot_heap w.params).life, #[], boot_drawn, 544, os⟩
noncomputable def posB54 : Pos := ⟨47, 9, 47, 52⟩
noncomputable def SB55 (w : World) (os : OsState) : SharedT := ⟨TB55 w.params, 158, (boot_heap w.params).life, #[], boot_drawn, 545, os⟩
noncomputable def posB55 : Pos := ⟨47, 9, 47, 52⟩
noncomputable def SB56 (w : World) (os : OsState) : SharedT := ⟨TB56 w.params, 158, (boot_heap w.params).life, #[], boot_drawn, 546, os⟩
noncomputable def posB56 : Pos := ⟨47, 9, 47, 52⟩
noncomputable def SB57 (w : World) (os : OsState) : SharedT := ⟨TB57 w.params, 158, (boot_heap w.params).life, #[], boot_drawn, 547, os⟩
noncomputable def posB57 : Pos := ⟨47, 9, 47, 52⟩
noncomputable def SB58 (w : World) (os : OsState) : SharedT := ⟨TB58 w.params, 158, (boot_heap w.params).life, #[], boot_drawn, 548, os⟩
noncomputable def posB58 : Pos := ⟨47, 9, 47, 52⟩
noncomputable def SB59 (w : World) (os : OsState) : SharedT := ⟨TB59 w.params, 158, (boot_heap w.params).life, #[], boot_drawn, 549, os⟩
noncomputable def posB59 : Pos := ⟨47, 9, 47, 52⟩
noncomputable def SB60 (w : World) (os : OsState) : SharedT := ⟨TB60 w.params, 158, (boot_heap w.params).life, #[], boot_drawn, 550, os⟩
noncomputable def posB60 : Pos := ⟨47, 9, 47, 52⟩
noncomputable def SB61 (w : World) (os : OsState) : SharedT := ⟨TB61 w.params, 158, (boot_heap w.params).life, #[], boot_drawn, 551, os⟩
noncomputable def posB61 : Pos := ⟨47, 9, 47, 52⟩
noncomputable def SB62 (w : World) (os : OsState) : SharedT := ⟨TB62 w.params, 158, (boot_heap w.params).life, #[], boot_drawn, 552, os⟩
noncomputable def posB62 : Pos := ⟨47, 9, 47, 52⟩
noncomputable def SB63 (w : World) (os : OsState) : SharedT := ⟨TB63 w.params, 158, (boot_heap w.params).life, #[], boot_drawn, 553, os⟩
noncomputable def posB63 : Pos := ⟨47, 9, 47, 52⟩
noncomputable def SB64 (w : World) (os : OsState) : SharedT := ⟨TB64 w.params, 158, (boot_heap w.params).life, #[], boot_drawn, 554, os⟩
noncomputable def posB64 : Pos := ⟨47, 9, 47, 52⟩
noncomputable def SB65 (w : World) (os : OsState) : SharedT := ⟨TB65 w.params, 158, (boot_heap w.params).life, #[], boot_drawn, 555, os⟩
noncomputable def posB65 : Pos := ⟨47, 9, 47, 52⟩
noncomputable def SB66 (w : World) (os : OsState) : SharedT := ⟨TB66 w.params, 158, (boot_heap w.params).life, #[], boot_drawn, 556, os⟩
noncomputable def posB66 : Pos := ⟨47, 9, 47, 52⟩
noncomputable def SB67 (w : World) (os : OsState) : SharedT := ⟨TB67 w.params, 158, (boot_heap w.params).life, #[], boot_drawn, 557, os⟩
noncomputable def posB67 : Pos := ⟨47, 9, 47, 52⟩
noncomputable def SB68 (w : World) (os : OsState) : SharedT := ⟨TB68 w.params, 158, (boot_heap w.params).life, #[], boot_drawn, 558, os⟩
noncomputable def posB68 : Pos := ⟨47, 9, 47, 52⟩
noncomputable def SB69 (w : World) (os : OsState) : SharedT := ⟨TB69 w.params, 158, (boot_heap w.params).life, #[], boot_drawn, 559, os⟩
noncomputable def posB69 : Pos := ⟨47, 9, 47, 52⟩
noncomputable def SB70 (w : World) (os : OsState) : SharedT := ⟨TB70 w.params, 158, (boot_heap w.params).life, #[], boot_drawn, 560, os⟩
noncomputable def posB70 : Pos := ⟨47, 9, 47, 52⟩
noncomputable def SB71 (w : World) (os : OsState) : SharedT := ⟨TB71 w.params, 158, (boot_heap w.params).life, #[], boot_drawn, 561, os⟩
noncomputable def posB71 : Pos := ⟨47, 9, 47, 52⟩
noncomputable def SB72 (w : World) (os : OsState) : SharedT := ⟨TB72 w.params, 158, (boot_heap w.params).life, #[], boot_drawn, 562, os⟩
noncomputable def posB72 : Pos := ⟨47, 9, 47, 52⟩
noncomputable def SB73 (w : World) (os : OsState) : SharedT := ⟨TB73 w.params, 158, (boot_heap w.params).life, #[], boot_drawn, 563, os⟩
noncomputable def posB73 : Pos := ⟨47, 9, 47, 52⟩
noncomputable def SB74 (w : World) (os : OsState) : SharedT := ⟨TB74 w.params, 158, (boot_heap w.params).life, #[], boot_drawn, 564, os⟩
noncomputable def posB74 : Pos := ⟨47, 9, 47, 52⟩
noncomputable def SB75 (w : World) (os : OsState) : SharedT := ⟨TB75 w.params, 158, (boot_heap w.params).life, #[], boot_drawn, 565, os⟩
noncomputable def posB75 : Pos := ⟨47, 9, 47, 52⟩
noncomputable def SB76 (w : World) (os : OsState) : SharedT := ⟨TB76 w.params, 158, (boot_heap w.params).life, #[], boot_drawn, 566, os⟩
noncomputable def posB76 : Pos := ⟨47, 9, 47, 52⟩
noncomputable def SB77 (w : World) (os : OsState) : SharedT := ⟨TB77 w.params, 158, (boot_heap w.params).life, #[], boot_drawn, 567, os⟩
noncomputable def posB77 : Pos := ⟨47, 9, 47, 52⟩
noncomputable def SB78 (w : World) (os : OsState) : SharedT := ⟨TB78 w.params, 158, (boot_heap w.params).life, #[], boot_drawn, 568, os⟩
noncomputable def posB78 : Pos := ⟨47, 9, 47, 52⟩
noncomputable def SB79 (w : World) (os : OsState) : SharedT := ⟨TB79 w.params, 158, (boot_heap w.params).life, #[], boot_drawn, 569, os⟩
noncomputable def posB79 : Pos := ⟨47, 9, 47, 52⟩
noncomputable def SB80 (w : World) (os : OsState) : SharedT := ⟨TB80 w.params, 158, (boot_heap w.params).life, #[], boot_drawn, 570, os⟩
noncomputable def posB80 : Pos := ⟨47, 9, 47, 52⟩
noncomputable def SB81 (w : World) (os : OsState) : SharedT := ⟨TB81 w.params, 158, (boot_heap w.params).life, #[], boot_drawn, 571, os⟩
noncomputable def posB81 : Pos := ⟨47, 9, 47, 52⟩
noncomputable def SB82 (w : World) (os : OsState) : SharedT := ⟨TB82 w.params, 158, (boot_heap w.params).life, #[], boot_drawn, 572, os⟩
noncomputable def posB82 : Pos := ⟨47, 9, 47, 52⟩
noncomputable def SB83 (w : World) (os : OsState) : SharedT := ⟨TB83 w.params, 158, (boot_heap w.params).life, #[], boot_drawn, 573, os⟩
noncomputable def posB83 : Pos := ⟨47, 9, 47, 52⟩
noncomputable def SB84 (w : World) (os : OsState) : SharedT := ⟨TB84 w.params, 158, (boot_heap w.params).life, #[], boot_drawn, 574, os⟩
noncomputable def posB84 : Pos := ⟨47, 9, 47, 52⟩
noncomputable def SB85 (w : World) (os : OsState) : SharedT := ⟨TB85 w.params, 158, (boot_heap w.params).life, #[], boot_drawn, 575, os⟩
noncomputable def posB85 : Pos := ⟨47, 9, 47, 52⟩
noncomputable def SB86 (w : World) (os : OsState) : SharedT := ⟨TB86 w.params, 158, (boot_heap w.params).life, #[], boot_drawn, 576, os⟩
noncomputable def posB86 : Pos := ⟨47, 9, 47, 52⟩
noncomputable def SB87 (w : World) (os : OsState) : SharedT := ⟨TB87 w.params, 158, (boot_heap w.params).life, #[], boot_drawn, 577, os⟩
noncomputable def posB87 : Pos := ⟨47, 9, 47, 52⟩
noncomputable def SB88 (w : World) (os : OsState) : SharedT := ⟨TB88 w.params, 158, (boot_heap w.params).life, #[], boot_drawn, 578, os⟩
noncomputable def posB88 : Pos := ⟨47, 9, 47, 52⟩
noncomputable def SB89 (w : World) (os : OsState) : SharedT := ⟨TB89 w.params, 158, (boot_heap w.params).life, #[], boot_drawn, 579, os⟩
noncomputable def posB89 : Pos := ⟨47, 9, 47, 52⟩
noncomputable def SB90 (w : World) (os : OsState) : SharedT := ⟨TB90 w.params, 158, (boot_heap w.params).life, #[], boot_drawn, 580, os⟩
noncomputable def posB90 : Pos := ⟨47, 9, 47, 52⟩
noncomputable def SB91 (w : World) (os : OsState) : SharedT := ⟨TB91 w.params, 158, (boot_heap w.params).life, #[], boot_drawn, 581, os⟩
noncomputable def posB91 : Pos := ⟨47, 9, 47, 52⟩
noncomputable def SB92 (w : World) (os : OsState) : SharedT := ⟨TB92 w.params, 158, (boot_heap w.params).life, #[], boot_drawn, 582, os⟩
noncomputable def posB92 : Pos := ⟨47, 9, 47, 52⟩
noncomputable def SB93 (w : World) (os : OsState) : SharedT := ⟨TB93 w.params, 158, (boot_heap w.params).life, #[], boot_drawn, 583, os⟩
noncomputable def posB93 : Pos := ⟨47, 9, 47, 52⟩
noncomputable def SB94 (w : World) (os : OsState) : SharedT := ⟨TB94 w.params, 158, (boot_heap w.params).life, #[], boot_drawn, 584, os⟩
noncomputable def posB94 : Pos := ⟨47, 9, 47, 52⟩
noncomputable def SB95 (w : World) (os : OsState) : SharedT := ⟨TB95 w.params, 158, (boot_heap w.params).life, #[], boot_drawn, 585, os⟩
noncomputable def posB95 : Pos := ⟨47, 9, 47, 52⟩
noncomputable def SB96 (w : World) (os : OsState) : SharedT := ⟨TB96 w.params, 158, (boot_heap w.params).life, #[], boot_drawn, 586, os⟩
noncomputable def posB96 : Pos := ⟨47, 9, 47, 52⟩
noncomputable def SB97 (w : World) (os : OsState) : SharedT := ⟨TB97 w.params, 158, (boot_heap w.params).life, #[], boot_drawn, 587, os⟩
noncomputable def posB97 : Pos := ⟨47, 9, 47, 52⟩
noncomputable def S12 (w : World) (os : OsState) : SharedT := ⟨T12 w.params, 160, (boot_heap w.params).life, #[], boot_drawn, 588, os⟩
noncomputable def pos12 : Pos := ⟨47, 0, 47, 6⟩
noncomputable def S20 (w : World) (os : OsState) : SharedT := ⟨T20 w.params, 205, (boot_heap w.params).life, #[], boot_drawn, 658, os⟩
noncomputable def pos20 : Pos := ⟨114, 0, 142, 42⟩
noncomputable def w0 : World := { draws := fun _ _ => 0, params := { strHash := fun _ => 0, shareClass := fun _ => 0, mergeTok := id, idOf := fun _ => 0, idOfShared := fun _ _ => 0, followText := fun _ => false, idOfImm := fun _ => 0 } }
noncomputable def os0 : OsState := {}
noncomputable def goT (n : Nat) (s : SharedT) (t : Thread) : Thread := match PySem.W.Fast.tw10295753902157049106 PySem.W.Fast.tw14364793385576792824 pw w0 11 anns 1 n s t with
  | some r => r.2
  | none => t
noncomputable def th11 : Thread := (piecesOf (sts 11 1) env0 cE pos11 [topFrame fr0])
noncomputable def thA : Thread := goT 87 (S11 w0 os0) th11
noncomputable def thB : Thread := goT 59 (SA4 w0 os0) thA
end Mine
end SecHeadBase
set_option maxRecDepth 100000
set_option maxHeartbeats 0
set_option Elab.async false
noncomputable section SecHeadLem
namespace Mine
open PySem PySem.W PySem.Calls PyProof.Rows
theorem pc0 (w : World) (os : OsState) : segRunT treeTable pw w 11 anns 1 48 (S0 w os) (piecesOf (sts 0 3) env0 cE pos0 [topFrame fr0]) = some (.next, S3 w os, cE, pos3) := by
  rw [PySem.W.Fast.te10110043849684766642, PySem.W.Fast.te14364793385576792824]; kernel_rfl
theorem pc3 (w : World) (os : OsState) : segRunT treeTable pw w 11 anns 1 504 (S3 w os) (piecesOf (sts 3 1) env0 cE pos3 [topFrame fr0]) = some (.next, S4 w os, cE, pos4) := by
  rw [PySem.W.Fast.te10110043849684766642, PySem.W.Fast.te14364793385576792824]; kernel_rfl
theorem pc4 (w : World) (os : OsState) : segRunT treeTable pw w 11 anns 1 49 (S4 w os) (piecesOf (sts 4 3) env0 cE pos4 [topFrame fr0]) = some (.next, S7 w os, cE, pos7) := by
  rw [PySem.W.Fast.te10110043849684766642, PySem.W.Fast.te14364793385576792824]; kernel_rfl
theorem pc7 (w : World) (os : OsState) : segRunT treeTable pw w 11 anns 1 361 (S7 w os) (piecesOf (sts 7 1) env0 cE pos7 [topFrame fr0]) = some (.next, S8 w os, cE, pos8) :=
  byRow2 "special-get-raises" (P := fun w => segRunT treeTable pw w 11 anns 1 361 (S7 w os) (piecesOf (sts 7 1) env0 cE pos7 [topFrame fr0]) = some (.next, S8 w os, cE, pos8)) (fun w => by rw [PySem.W.Fast.te10110043849684766642, PySem.W.Fast.te14364793385576792824]; kernel_rfl) (fun w => by rw [PySem.W.Fast.te10110043849684766642, PySem.W.Fast.te14364793385576792824]; kernel_rfl) w
theorem pc8 (w : World) (os : OsState) : segRunT treeTable pw w 11 anns 1 30 (S8 w os) (piecesOf (sts 8 1) env0 cE pos8 [topFrame fr0]) = some (.next, S9 w os, cE, pos9) := by
  rw [PySem.W.Fast.te10110043849684766642, PySem.W.Fast.te14364793385576792824]; kernel_rfl
theorem pc9 (w : World) (os : OsState) : segRunT treeTable pw w 11 anns 1 775 (S9 w os) (piecesOf (sts 9 1) env0 cE pos9 [topFrame fr0]) = some (.next, S10 w os, cE, pos10) :=
  byRow2 "special-get-raises" (P := fun w => segRunT treeTable pw w 11 anns 1 775 (S9 w os) (piecesOf (sts 9 1) env0 cE pos9 [topFrame fr0]) = some (.next, S10 w os, cE, pos10)) (fun w => by rw [PySem.W.Fast.te10110043849684766642, PySem.W.Fast.te14364793385576792824]; kernel_rfl) (fun w => by rw [PySem.W.Fast.te10110043849684766642, PySem.W.Fast.te14364793385576792824]; kernel_rfl) w
theorem pc10 (w : World) (os : OsState) : segRunT treeTable pw w 11 anns 1 30 (S10 w os) (piecesOf (sts 10 1) env0 cE pos10 [topFrame fr0]) = some (.next, S11 w os, cE, pos11) := by
  rw [PySem.W.Fast.te10110043849684766642, PySem.W.Fast.te14364793385576792824]; kernel_rfl
theorem pc12 (w : World) (os : OsState) : segRunT treeTable pw w 11 anns 1 228 (S12 w os) (piecesOf (sts 12 8) env0 cE pos12 [topFrame fr0]) = some (.next, S20 w os, cE, pos20) := by
  rw [PySem.W.Fast.te10110043849684766642, PySem.W.Fast.te14364793385576792824]; kernel_rfl
theorem pcA (w : World) (os : OsState) : segGoT treeTable pw w 11 anns 1 87 (S11 w os) th11 = some (SA0 w os, thA) :=
  byRow2 "special-get-raises" (P := fun w => segGoT treeTable pw w 11 anns 1 87 (S11 w os) th11 = some (SA0 w os, thA)) (fun w => by rw [PySem.W.Fast.te10295753902157049106, PySem.W.Fast.te14364793385576792824]; kernel_rfl) (fun w => by rw [PySem.W.Fast.te10295753902157049106, PySem.W.Fast.te14364793385576792824]; kernel_rfl) w
theorem pcA0 (w : World) (os : OsState) : segGoT treeTable pw w 11 anns 1 408 (SA0 w os) thA = some (SA1 w os, thA) := by
  rw [PySem.W.Fast.te10295753902157049106, PySem.W.Fast.te14364793385576792824]; kernel_rfl
theorem pcA1 (w : World) (os : OsState) : segGoT treeTable pw w 11 anns 1 408 (SA1 w os) thA = some (SA2 w os, thA) := by
  rw [PySem.W.Fast.te10295753902157049106, PySem.W.Fast.te14364793385576792824]; kernel_rfl
theorem pcA2 (w : World) (os : OsState) : segGoT treeTable pw w 11 anns 1 408 (SA2 w os) thA = some (SA3 w os, thA) := by
  rw [PySem.W.Fast.te10295753902157049106, PySem.W.Fast.te14364793385576792824]; kernel_rfl
theorem pcA3 (w : World) (os : OsState) : segGoT treeTable pw w 11 anns 1 408 (SA3 w os) thA = some (SA4 w os, thA) := by
  rw [PySem.W.Fast.te10295753902157049106, PySem.W.Fast.te14364793385576792824]; kernel_rfl
theorem pcB (w : World) (os : OsState) : segGoT treeTable pw w 11 anns 1 59 (SA4 w os) thA = some (SB0 w os, thB) :=
  byRow2 "special-get-raises" (P := fun w => segGoT treeTable pw w 11 anns 1 59 (SA4 w os) thA = some (SB0 w os, thB)) (fun w => by rw [PySem.W.Fast.te10295753902157049106, PySem.W.Fast.te14364793385576792824]; kernel_rfl) (fun w => by rw [PySem.W.Fast.te10295753902157049106, PySem.W.Fast.te14364793385576792824]; kernel_rfl) w
theorem pcE (w : World) (os : OsState) : segRunT treeTable pw w 11 anns 1 27 (SB97 w os) thB = some (.next, S12 w os, cE, pos12) := by
  rw [PySem.W.Fast.te10110043849684766642, PySem.W.Fast.te14364793385576792824]; kernel_rfl
end Mine
end SecHeadLem
set_option maxRecDepth 100000
set_option maxHeartbeats 0
set_option Elab.async false
noncomputable section SecHeadLoop
namespace Mine
open PySem PySem.W PySem.Calls PyProof.Rows
noncomputable abbrev cB : Code := .builtin "set.update.loop" ⟨[.ref 156, .ref 157], []⟩
noncomputable abbrev thG (tb : String → Option Builtin) (k : Result → Sem Fin) (hd : Option Value) (g : Bool) (l : List Value) (cd : Code) (p₀ : Pos) (kept : List Value) (f2 : Frame) (stk : List Frame) : Thread := ⟨denote tb cB, cB, posB0, .ret k hd g l cd p₀ kept :: f2 :: stk⟩
theorem goT_add {tb : String → Option Builtin} {p : Program} {w : World} {n₀ : Nat} {ann : Option Value} {b : Nat} : ∀ {n m : Nat} {s s' : SharedT} {t t' : Thread} {r : Option (SharedT × Thread)}, segGoT tb p w n₀ ann b n s t = some (s', t') → segGoT tb p w n₀ ann b m s' t' = r → segGoT tb p w n₀ ann b (n + m) s t = r
  | 0, m, s, s', t, t', r, h, k => by
    obtain ⟨rfl, rfl⟩ : s = s' ∧ t = t' := by simpa [segGoT] using h
    rw [Nat.zero_add]; exact k
  | n + 1, m, s, s', t, t', r, h, k => by
    rw [show n + 1 + m = n + m + 1 by omega]
    unfold segGoT at h ⊢
    cases he : endAt b t with
    | some x => rw [he] at h; cases h
    | none =>
      rw [he] at h
      cases hk : stepOk n₀ ann t with
      | false => rw [hk] at h; cases h
      | true =>
        rw [hk] at h
        cases hs : stepT (denote tb) p w s t with
        | none => rw [hs] at h; cases h
        | some q => obtain ⟨s₂, t₂⟩ := q; rw [hs] at h; exact goT_add h k
theorem lbfalse0 (w : World) (os : OsState) (k : Result → Sem Fin) (hd : Option Value) (g : Bool) (l : List Value) (cd : Code) (p₀ : Pos) (kept : List Value) (f2 : Frame) (stk : List Frame) : segGoT treeTable pw (w.withFollow "special-get-raises" false) 11 anns 1 102 (SB0 (w.withFollow "special-get-raises" false) os) (thG treeTable k hd g l cd p₀ kept f2 stk) = some (SB5 (w.withFollow "special-get-raises" false) os, (thG treeTable k hd g l cd p₀ kept f2 stk)) := by
  rw [PySem.W.Fast.te10295753902157049106, PySem.W.Fast.te14364793385576792824]; kernel_rfl
theorem lbfalse5 (w : World) (os : OsState) (k : Result → Sem Fin) (hd : Option Value) (g : Bool) (l : List Value) (cd : Code) (p₀ : Pos) (kept : List Value) (f2 : Frame) (stk : List Frame) : segGoT treeTable pw (w.withFollow "special-get-raises" false) 11 anns 1 20 (SB5 (w.withFollow "special-get-raises" false) os) (thG treeTable k hd g l cd p₀ kept f2 stk) = some (SB6 (w.withFollow "special-get-raises" false) os, (thG treeTable k hd g l cd p₀ kept f2 stk)) := by
  rw [PySem.W.Fast.te10295753902157049106, PySem.W.Fast.te14364793385576792824]; kernel_rfl
theorem lbfalse6 (w : World) (os : OsState) (k : Result → Sem Fin) (hd : Option Value) (g : Bool) (l : List Value) (cd : Code) (p₀ : Pos) (kept : List Value) (f2 : Frame) (stk : List Frame) : segGoT treeTable pw (w.withFollow "special-get-raises" false) 11 anns 1 20 (SB6 (w.withFollow "special-get-raises" false) os) (thG treeTable k hd g l cd p₀ kept f2 stk) = some (SB7 (w.withFollow "special-get-raises" false) os, (thG treeTable k hd g l cd p₀ kept f2 stk)) := by
  rw [PySem.W.Fast.te10295753902157049106, PySem.W.Fast.te14364793385576792824]; kernel_rfl
theorem lbfalse7 (w : World) (os : OsState) (k : Result → Sem Fin) (hd : Option Value) (g : Bool) (l : List Value) (cd : Code) (p₀ : Pos) (kept : List Value) (f2 : Frame) (stk : List Frame) : segGoT treeTable pw (w.withFollow "special-get-raises" false) 11 anns 1 20 (SB7 (w.withFollow "special-get-raises" false) os) (thG treeTable k hd g l cd p₀ kept f2 stk) = some (SB8 (w.withFollow "special-get-raises" false) os, (thG treeTable k hd g l cd p₀ kept f2 stk)) := by
  rw [PySem.W.Fast.te10295753902157049106, PySem.W.Fast.te14364793385576792824]; kernel_rfl
theorem lbfalse8 (w : World) (os : OsState) (k : Result → Sem Fin) (hd : Option Value) (g : Bool) (l : List Value) (cd : Code) (p₀ : Pos) (kept : List Value) (f2 : Frame) (stk : List Frame) : segGoT treeTable pw (w.withFollow "special-get-raises" false) 11 anns 1 20 (SB8 (w.withFollow "special-get-raises" false) os) (thG treeTable k hd g l cd p₀ kept f2 stk) = some (SB9 (w.withFollow "special-get-raises" false) os, (thG treeTable k hd g l cd p₀ kept f2 stk)) := by
  rw [PySem.W.Fast.te10295753902157049106, PySem.W.Fast.te14364793385576792824]; kernel_rfl
theorem lbfalse9 (w : World) (os : OsState) (k : Result → Sem Fin) (hd : Option Value) (g : Bool) (l : List Value) (cd : Code) (p₀ : Pos) (kept : List Value) (f2 : Frame) (stk : List Frame) : segGoT treeTable pw (w.withFollow "special-get-raises" false) 11 anns 1 20 (SB9 (w.withFollow "special-get-raises" false) os) (thG treeTable k hd g l cd p₀ kept f2 stk) = some (SB10 (w.withFollow "special-get-raises" false) os, (thG treeTable k hd g l cd p₀ kept f2 stk)) := by
  rw [PySem.W.Fast.te10295753902157049106, PySem.W.Fast.te14364793385576792824]; kernel_rfl
theorem lbfalse10 (w : World) (os : OsState) (k : Result → Sem Fin) (hd : Option Value) (g : Bool) (l : List Value) (cd : Code) (p₀ : Pos) (kept : List Value) (f2 : Frame) (stk : List Frame) : segGoT treeTable pw (w.withFollow "special-get-raises" false) 11 anns 1 20 (SB10 (w.withFollow "special-get-raises" false) os) (thG treeTable k hd g l cd p₀ kept f2 stk) = some (SB11 (w.withFollow "special-get-raises" false) os, (thG treeTable k hd g l cd p₀ kept f2 stk)) := by
  rw [PySem.W.Fast.te10295753902157049106, PySem.W.Fast.te14364793385576792824]; kernel_rfl
theorem lbfalse11 (w : World) (os : OsState) (k : Result → Sem Fin) (hd : Option Value) (g : Bool) (l : List Value) (cd : Code) (p₀ : Pos) (kept : List Value) (f2 : Frame) (stk : List Frame) : segGoT treeTable pw (w.withFollow "special-get-raises" false) 11 anns 1 20 (SB11 (w.withFollow "special-get-raises" false) os) (thG treeTable k hd g l cd p₀ kept f2 stk) = some (SB12 (w.withFollow "special-get-raises" false) os, (thG treeTable k hd g l cd p₀ kept f2 stk)) := by
  rw [PySem.W.Fast.te10295753902157049106, PySem.W.Fast.te14364793385576792824]; kernel_rfl
theorem lbfalse12 (w : World) (os : OsState) (k : Result → Sem Fin) (hd : Option Value) (g : Bool) (l : List Value) (cd : Code) (p₀ : Pos) (kept : List Value) (f2 : Frame) (stk : List Frame) : segGoT treeTable pw (w.withFollow "special-get-raises" false) 11 anns 1 20 (SB12 (w.withFollow "special-get-raises" false) os) (thG treeTable k hd g l cd p₀ kept f2 stk) = some (SB13 (w.withFollow "special-get-raises" false) os, (thG treeTable k hd g l cd p₀ kept f2 stk)) := by
  rw [PySem.W.Fast.te10295753902157049106, PySem.W.Fast.te14364793385576792824]; kernel_rfl
theorem lbfalse13 (w : World) (os : OsState) (k : Result → Sem Fin) (hd : Option Value) (g : Bool) (l : List Value) (cd : Code) (p₀ : Pos) (kept : List Value) (f2 : Frame) (stk : List Frame) : segGoT treeTable pw (w.withFollow "special-get-raises" false) 11 anns 1 20 (SB13 (w.withFollow "special-get-raises" false) os) (thG treeTable k hd g l cd p₀ kept f2 stk) = some (SB14 (w.withFollow "special-get-raises" false) os, (thG treeTable k hd g l cd p₀ kept f2 stk)) := by
  rw [PySem.W.Fast.te10295753902157049106, PySem.W.Fast.te14364793385576792824]; kernel_rfl
theorem lbfalse14 (w : World) (os : OsState) (k : Result → Sem Fin) (hd : Option Value) (g : Bool) (l : List Value) (cd : Code) (p₀ : Pos) (kept : List Value) (f2 : Frame) (stk : List Frame) : segGoT treeTable pw (w.withFollow "special-get-raises" false) 11 anns 1 20 (SB14 (w.withFollow "special-get-raises" false) os) (thG treeTable k hd g l cd p₀ kept f2 stk) = some (SB15 (w.withFollow "special-get-raises" false) os, (thG treeTable k hd g l cd p₀ kept f2 stk)) := by
  rw [PySem.W.Fast.te10295753902157049106, PySem.W.Fast.te14364793385576792824]; kernel_rfl
theorem lbfalse15 (w : World) (os : OsState) (k : Result → Sem Fin) (hd : Option Value) (g : Bool) (l : List Value) (cd : Code) (p₀ : Pos) (kept : List Value) (f2 : Frame) (stk : List Frame) : segGoT treeTable pw (w.withFollow "special-get-raises" false) 11 anns 1 20 (SB15 (w.withFollow "special-get-raises" false) os) (thG treeTable k hd g l cd p₀ kept f2 stk) = some (SB16 (w.withFollow "special-get-raises" false) os, (thG treeTable k hd g l cd p₀ kept f2 stk)) := by
  rw [PySem.W.Fast.te10295753902157049106, PySem.W.Fast.te14364793385576792824]; kernel_rfl
theorem lbfalse16 (w : World) (os : OsState) (k : Result → Sem Fin) (hd : Option Value) (g : Bool) (l : List Value) (cd : Code) (p₀ : Pos) (kept : List Value) (f2 : Frame) (stk : List Frame) : segGoT treeTable pw (w.withFollow "special-get-raises" false) 11 anns 1 20 (SB16 (w.withFollow "special-get-raises" false) os) (thG treeTable k hd g l cd p₀ kept f2 stk) = some (SB17 (w.withFollow "special-get-raises" false) os, (thG treeTable k hd g l cd p₀ kept f2 stk)) := by
  rw [PySem.W.Fast.te10295753902157049106, PySem.W.Fast.te14364793385576792824]; kernel_rfl
theorem lbfalse17 (w : World) (os : OsState) (k : Result → Sem Fin) (hd : Option Value) (g : Bool) (l : List Value) (cd : Code) (p₀ : Pos) (kept : List Value) (f2 : Frame) (stk : List Frame) : segGoT treeTable pw (w.withFollow "special-get-raises" false) 11 anns 1 20 (SB17 (w.withFollow "special-get-raises" false) os) (thG treeTable k hd g l cd p₀ kept f2 stk) = some (SB18 (w.withFollow "special-get-raises" false) os, (thG treeTable k hd g l cd p₀ kept f2 stk)) := by
  rw [PySem.W.Fast.te10295753902157049106, PySem.W.Fast.te14364793385576792824]; kernel_rfl
theorem lbfalse18 (w : World) (os : OsState) (k : Result → Sem Fin) (hd : Option Value) (g : Bool) (l : List Value) (cd : Code) (p₀ : Pos) (kept : List Value) (f2 : Frame) (stk : List Frame) : segGoT treeTable pw (w.withFollow "special-get-raises" false) 11 anns 1 22 (SB18 (w.withFollow "special-get-raises" false) os) (thG treeTable k hd g l cd p₀ kept f2 stk) = some (SB19 (w.withFollow "special-get-raises" false) os, (thG treeTable k hd g l cd p₀ kept f2 stk)) := by
  rw [PySem.W.Fast.te10295753902157049106, PySem.W.Fast.te14364793385576792824]; kernel_rfl
theorem lbfalse19 (w : World) (os : OsState) (k : Result → Sem Fin) (hd : Option Value) (g : Bool) (l : List Value) (cd : Code) (p₀ : Pos) (kept : List Value) (f2 : Frame) (stk : List Frame) : segGoT treeTable pw (w.withFollow "special-get-raises" false) 11 anns 1 20 (SB19 (w.withFollow "special-get-raises" false) os) (thG treeTable k hd g l cd p₀ kept f2 stk) = some (SB20 (w.withFollow "special-get-raises" false) os, (thG treeTable k hd g l cd p₀ kept f2 stk)) := by
  rw [PySem.W.Fast.te10295753902157049106, PySem.W.Fast.te14364793385576792824]; kernel_rfl
theorem lbfalse20 (w : World) (os : OsState) (k : Result → Sem Fin) (hd : Option Value) (g : Bool) (l : List Value) (cd : Code) (p₀ : Pos) (kept : List Value) (f2 : Frame) (stk : List Frame) : segGoT treeTable pw (w.withFollow "special-get-raises" false) 11 anns 1 20 (SB20 (w.withFollow "special-get-raises" false) os) (thG treeTable k hd g l cd p₀ kept f2 stk) = some (SB21 (w.withFollow "special-get-raises" false) os, (thG treeTable k hd g l cd p₀ kept f2 stk)) := by
  rw [PySem.W.Fast.te10295753902157049106, PySem.W.Fast.te14364793385576792824]; kernel_rfl
theorem lbfalse21 (w : World) (os : OsState) (k : Result → Sem Fin) (hd : Option Value) (g : Bool) (l : List Value) (cd : Code) (p₀ : Pos) (kept : List Value) (f2 : Frame) (stk : List Frame) : segGoT treeTable pw (w.withFollow "special-get-raises" false) 11 anns 1 20 (SB21 (w.withFollow "special-get-raises" false) os) (thG treeTable k hd g l cd p₀ kept f2 stk) = some (SB22 (w.withFollow "special-get-raises" false) os, (thG treeTable k hd g l cd p₀ kept f2 stk)) := by
  rw [PySem.W.Fast.te10295753902157049106, PySem.W.Fast.te14364793385576792824]; kernel_rfl
theorem lbfalse22 (w : World) (os : OsState) (k : Result → Sem Fin) (hd : Option Value) (g : Bool) (l : List Value) (cd : Code) (p₀ : Pos) (kept : List Value) (f2 : Frame) (stk : List Frame) : segGoT treeTable pw (w.withFollow "special-get-raises" false) 11 anns 1 20 (SB22 (w.withFollow "special-get-raises" false) os) (thG treeTable k hd g l cd p₀ kept f2 stk) = some (SB23 (w.withFollow "special-get-raises" false) os, (thG treeTable k hd g l cd p₀ kept f2 stk)) := by
  rw [PySem.W.Fast.te10295753902157049106, PySem.W.Fast.te14364793385576792824]; kernel_rfl
theorem lbfalse23 (w : World) (os : OsState) (k : Result → Sem Fin) (hd : Option Value) (g : Bool) (l : List Value) (cd : Code) (p₀ : Pos) (kept : List Value) (f2 : Frame) (stk : List Frame) : segGoT treeTable pw (w.withFollow "special-get-raises" false) 11 anns 1 20 (SB23 (w.withFollow "special-get-raises" false) os) (thG treeTable k hd g l cd p₀ kept f2 stk) = some (SB24 (w.withFollow "special-get-raises" false) os, (thG treeTable k hd g l cd p₀ kept f2 stk)) := by
  rw [PySem.W.Fast.te10295753902157049106, PySem.W.Fast.te14364793385576792824]; kernel_rfl
theorem lbfalse24 (w : World) (os : OsState) (k : Result → Sem Fin) (hd : Option Value) (g : Bool) (l : List Value) (cd : Code) (p₀ : Pos) (kept : List Value) (f2 : Frame) (stk : List Frame) : segGoT treeTable pw (w.withFollow "special-get-raises" false) 11 anns 1 20 (SB24 (w.withFollow "special-get-raises" false) os) (thG treeTable k hd g l cd p₀ kept f2 stk) = some (SB25 (w.withFollow "special-get-raises" false) os, (thG treeTable k hd g l cd p₀ kept f2 stk)) := by
  rw [PySem.W.Fast.te10295753902157049106, PySem.W.Fast.te14364793385576792824]; kernel_rfl
theorem lbfalse25 (w : World) (os : OsState) (k : Result → Sem Fin) (hd : Option Value) (g : Bool) (l : List Value) (cd : Code) (p₀ : Pos) (kept : List Value) (f2 : Frame) (stk : List Frame) : segGoT treeTable pw (w.withFollow "special-get-raises" false) 11 anns 1 20 (SB25 (w.withFollow "special-get-raises" false) os) (thG treeTable k hd g l cd p₀ kept f2 stk) = some (SB26 (w.withFollow "special-get-raises" false) os, (thG treeTable k hd g l cd p₀ kept f2 stk)) := by
  rw [PySem.W.Fast.te10295753902157049106, PySem.W.Fast.te14364793385576792824]; kernel_rfl
theorem lbfalse26 (w : World) (os : OsState) (k : Result → Sem Fin) (hd : Option Value) (g : Bool) (l : List Value) (cd : Code) (p₀ : Pos) (kept : List Value) (f2 : Frame) (stk : List Frame) : segGoT treeTable pw (w.withFollow "special-get-raises" false) 11 anns 1 20 (SB26 (w.withFollow "special-get-raises" false) os) (thG treeTable k hd g l cd p₀ kept f2 stk) = some (SB27 (w.withFollow "special-get-raises" false) os, (thG treeTable k hd g l cd p₀ kept f2 stk)) := by
  rw [PySem.W.Fast.te10295753902157049106, PySem.W.Fast.te14364793385576792824]; kernel_rfl
theorem lbfalse27 (w : World) (os : OsState) (k : Result → Sem Fin) (hd : Option Value) (g : Bool) (l : List Value) (cd : Code) (p₀ : Pos) (kept : List Value) (f2 : Frame) (stk : List Frame) : segGoT treeTable pw (w.withFollow "special-get-raises" false) 11 anns 1 20 (SB27 (w.withFollow "special-get-raises" false) os) (thG treeTable k hd g l cd p₀ kept f2 stk) = some (SB28 (w.withFollow "special-get-raises" false) os, (thG treeTable k hd g l cd p₀ kept f2 stk)) := by
  rw [PySem.W.Fast.te10295753902157049106, PySem.W.Fast.te14364793385576792824]; kernel_rfl
theorem lbfalse28 (w : World) (os : OsState) (k : Result → Sem Fin) (hd : Option Value) (g : Bool) (l : List Value) (cd : Code) (p₀ : Pos) (kept : List Value) (f2 : Frame) (stk : List Frame) : segGoT treeTable pw (w.withFollow "special-get-raises" false) 11 anns 1 20 (SB28 (w.withFollow "special-get-raises" false) os) (thG treeTable k hd g l cd p₀ kept f2 stk) = some (SB29 (w.withFollow "special-get-raises" false) os, (thG treeTable k hd g l cd p₀ kept f2 stk)) := by
  rw [PySem.W.Fast.te10295753902157049106, PySem.W.Fast.te14364793385576792824]; kernel_rfl
theorem lbfalse29 (w : World) (os : OsState) (k : Result → Sem Fin) (hd : Option Value) (g : Bool) (l : List Value) (cd : Code) (p₀ : Pos) (kept : List Value) (f2 : Frame) (stk : List Frame) : segGoT treeTable pw (w.withFollow "special-get-raises" false) 11 anns 1 20 (SB29 (w.withFollow "special-get-raises" false) os) (thG treeTable k hd g l cd p₀ kept f2 stk) = some (SB30 (w.withFollow "special-get-raises" false) os, (thG treeTable k hd g l cd p₀ kept f2 stk)) := by
  rw [PySem.W.Fast.te10295753902157049106, PySem.W.Fast.te14364793385576792824]; kernel_rfl
theorem lbfalse30 (w : World) (os : OsState) (k : Result → Sem Fin) (hd : Option Value) (g : Bool) (l : List Value) (cd : Code) (p₀ : Pos) (kept : List Value) (f2 : Frame) (stk : List Frame) : segGoT treeTable pw (w.withFollow "special-get-raises" false) 11 anns 1 20 (SB30 (w.withFollow "special-get-raises" false) os) (thG treeTable k hd g l cd p₀ kept f2 stk) = some (SB31 (w.withFollow "special-get-raises" false) os, (thG treeTable k hd g l cd p₀ kept f2 stk)) := by
  rw [PySem.W.Fast.te10295753902157049106, PySem.W.Fast.te14364793385576792824]; kernel_rfl
theorem lbfalse31 (w : World) (os : OsState) (k : Result → Sem Fin) (hd : Option Value) (g : Bool) (l : List Value) (cd : Code) (p₀ : Pos) (kept : List Value) (f2 : Frame) (stk : List Frame) : segGoT treeTable pw (w.withFollow "special-get-raises" false) 11 anns 1 20 (SB31 (w.withFollow "special-get-raises" false) os) (thG treeTable k hd g l cd p₀ kept f2 stk) = some (SB32 (w.withFollow "special-get-raises" false) os, (thG treeTable k hd g l cd p₀ kept f2 stk)) := by
  rw [PySem.W.Fast.te10295753902157049106, PySem.W.Fast.te14364793385576792824]; kernel_rfl
theorem lbfalse32 (w : World) (os : OsState) (k : Result → Sem Fin) (hd : Option Value) (g : Bool) (l : List Value) (cd : Code) (p₀ : Pos) (kept : List Value) (f2 : Frame) (stk : List Frame) : segGoT treeTable pw (w.withFollow "special-get-raises" false) 11 anns 1 20 (SB32 (w.withFollow "special-get-raises" false) os) (thG treeTable k hd g l cd p₀ kept f2 stk) = some (SB33 (w.withFollow "special-get-raises" false) os, (thG treeTable k hd g l cd p₀ kept f2 stk)) := by
  rw [PySem.W.Fast.te10295753902157049106, PySem.W.Fast.te14364793385576792824]; kernel_rfl
theorem lbfalse33 (w : World) (os : OsState) (k : Result → Sem Fin) (hd : Option Value) (g : Bool) (l : List Value) (cd : Code) (p₀ : Pos) (kept : List Value) (f2 : Frame) (stk : List Frame) : segGoT treeTable pw (w.withFollow "special-get-raises" false) 11 anns 1 20 (SB33 (w.withFollow "special-get-raises" false) os) (thG treeTable k hd g l cd p₀ kept f2 stk) = some (SB34 (w.withFollow "special-get-raises" false) os, (thG treeTable k hd g l cd p₀ kept f2 stk)) := by
  rw [PySem.W.Fast.te10295753902157049106, PySem.W.Fast.te14364793385576792824]; kernel_rfl
theorem lbfalse34 (w : World) (os : OsState) (k : Result → Sem Fin) (hd : Option Value) (g : Bool) (l : List Value) (cd : Code) (p₀ : Pos) (kept : List Value) (f2 : Frame) (stk : List Frame) : segGoT treeTable pw (w.withFollow "special-get-raises" false) 11 anns 1 20 (SB34 (w.withFollow "special-get-raises" false) os) (thG treeTable k hd g l cd p₀ kept f2 stk) = some (SB35 (w.withFollow "special-get-raises" false) os, (thG treeTable k hd g l cd p₀ kept f2 stk)) := by
  rw [PySem.W.Fast.te10295753902157049106, PySem.W.Fast.te14364793385576792824]; kernel_rfl
theorem lbfalse35 (w : World) (os : OsState) (k : Result → Sem Fin) (hd : Option Value) (g : Bool) (l : List Value) (cd : Code) (p₀ : Pos) (kept : List Value) (f2 : Frame) (stk : List Frame) : segGoT treeTable pw (w.withFollow "special-get-raises" false) 11 anns 1 20 (SB35 (w.withFollow "special-get-raises" false) os) (thG treeTable k hd g l cd p₀ kept f2 stk) = some (SB36 (w.withFollow "special-get-raises" false) os, (thG treeTable k hd g l cd p₀ kept f2 stk)) := by
  rw [PySem.W.Fast.te10295753902157049106, PySem.W.Fast.te14364793385576792824]; kernel_rfl
theorem lbfalse36 (w : World) (os : OsState) (k : Result → Sem Fin) (hd : Option Value) (g : Bool) (l : List Value) (cd : Code) (p₀ : Pos) (kept : List Value) (f2 : Frame) (stk : List Frame) : segGoT treeTable pw (w.withFollow "special-get-raises" false) 11 anns 1 20 (SB36 (w.withFollow "special-get-raises" false) os) (thG treeTable k hd g l cd p₀ kept f2 stk) = some (SB37 (w.withFollow "special-get-raises" false) os, (thG treeTable k hd g l cd p₀ kept f2 stk)) := by
  rw [PySem.W.Fast.te10295753902157049106, PySem.W.Fast.te14364793385576792824]; kernel_rfl
theorem lbfalse37 (w : World) (os : OsState) (k : Result → Sem Fin) (hd : Option Value) (g : Bool) (l : List Value) (cd : Code) (p₀ : Pos) (kept : List Value) (f2 : Frame) (stk : List Frame) : segGoT treeTable pw (w.withFollow "special-get-raises" false) 11 anns 1 20 (SB37 (w.withFollow "special-get-raises" false) os) (thG treeTable k hd g l cd p₀ kept f2 stk) = some (SB38 (w.withFollow "special-get-raises" false) os, (thG treeTable k hd g l cd p₀ kept f2 stk)) := by
  rw [PySem.W.Fast.te10295753902157049106, PySem.W.Fast.te14364793385576792824]; kernel_rfl
theorem lbfalse38 (w : World) (os : OsState) (k : Result → Sem Fin) (hd : Option Value) (g : Bool) (l : List Value) (cd : Code) (p₀ : Pos) (kept : List Value) (f2 : Frame) (stk : List Frame) : segGoT treeTable pw (w.withFollow "special-get-raises" false) 11 anns 1 20 (SB38 (w.withFollow "special-get-raises" false) os) (thG treeTable k hd g l cd p₀ kept f2 stk) = some (SB39 (w.withFollow "special-get-raises" false) os, (thG treeTable k hd g l cd p₀ kept f2 stk)) := by
  rw [PySem.W.Fast.te10295753902157049106, PySem.W.Fast.te14364793385576792824]; kernel_rfl
theorem lbfalse39 (w : World) (os : OsState) (k : Result → Sem Fin) (hd : Option Value) (g : Bool) (l : List Value) (cd : Code) (p₀ : Pos) (kept : List Value) (f2 : Frame) (stk : List Frame) : segGoT treeTable pw (w.withFollow "special-get-raises" false) 11 anns 1 20 (SB39 (w.withFollow "special-get-raises" false) os) (thG treeTable k hd g l cd p₀ kept f2 stk) = some (SB40 (w.withFollow "special-get-raises" false) os, (thG treeTable k hd g l cd p₀ kept f2 stk)) := by
  rw [PySem.W.Fast.te10295753902157049106, PySem.W.Fast.te14364793385576792824]; kernel_rfl
theorem lbfalse40 (w : World) (os : OsState) (k : Result → Sem Fin) (hd : Option Value) (g : Bool) (l : List Value) (cd : Code) (p₀ : Pos) (kept : List Value) (f2 : Frame) (stk : List Frame) : segGoT treeTable pw (w.withFollow "special-get-raises" false) 11 anns 1 20 (SB40 (w.withFollow "special-get-raises" false) os) (thG treeTable k hd g l cd p₀ kept f2 stk) = some (SB41 (w.withFollow "special-get-raises" false) os, (thG treeTable k hd g l cd p₀ kept f2 stk)) := by
  rw [PySem.W.Fast.te10295753902157049106, PySem.W.Fast.te14364793385576792824]; kernel_rfl
theorem lbfalse41 (w : World) (os : OsState) (k : Result → Sem Fin) (hd : Option Value) (g : Bool) (l : List Value) (cd : Code) (p₀ : Pos) (kept : List Value) (f2 : Frame) (stk : List Frame) : segGoT treeTable pw (w.withFollow "special-get-raises" false) 11 anns 1 20 (SB41 (w.withFollow "special-get-raises" false) os) (thG treeTable k hd g l cd p₀ kept f2 stk) = some (SB42 (w.withFollow "special-get-raises" false) os, (thG treeTable k hd g l cd p₀ kept f2 stk)) := by
  rw [PySem.W.Fast.te10295753902157049106, PySem.W.Fast.te14364793385576792824]; kernel_rfl
theorem lbfalse42 (w : World) (os : OsState) (k : Result → Sem Fin) (hd : Option Value) (g : Bool) (l : List Value) (cd : Code) (p₀ : Pos) (kept : List Value) (f2 : Frame) (stk : List Frame) : segGoT treeTable pw (w.withFollow "special-get-raises" false) 11 anns 1 20 (SB42 (w.withFollow "special-get-raises" false) os) (thG treeTable k hd g l cd p₀ kept f2 stk) = some (SB43 (w.withFollow "special-get-raises" false) os, (thG treeTable k hd g l cd p₀ kept f2 stk)) := by
  rw [PySem.W.Fast.te10295753902157049106, PySem.W.Fast.te14364793385576792824]; kernel_rfl
theorem lbfalse43 (w : World) (os : OsState) (k : Result → Sem Fin) (hd : Option Value) (g : Bool) (l : List Value) (cd : Code) (p₀ : Pos) (kept : List Value) (f2 : Frame) (stk : List Frame) : segGoT treeTable pw (w.withFollow "special-get-raises" false) 11 anns 1 20 (SB43 (w.withFollow "special-get-raises" false) os) (thG treeTable k hd g l cd p₀ kept f2 stk) = some (SB44 (w.withFollow "special-get-raises" false) os, (thG treeTable k hd g l cd p₀ kept f2 stk)) := by
  rw [PySem.W.Fast.te10295753902157049106, PySem.W.Fast.te14364793385576792824]; kernel_rfl
theorem lbfalse44 (w : World) (os : OsState) (k : Result → Sem Fin) (hd : Option Value) (g : Bool) (l : List Value) (cd : Code) (p₀ : Pos) (kept : List Value) (f2 : Frame) (stk : List Frame) : segGoT treeTable pw (w.withFollow "special-get-raises" false) 11 anns 1 20 (SB44 (w.withFollow "special-get-raises" false) os) (thG treeTable k hd g l cd p₀ kept f2 stk) = some (SB45 (w.withFollow "special-get-raises" false) os, (thG treeTable k hd g l cd p₀ kept f2 stk)) := by
  rw [PySem.W.Fast.te10295753902157049106, PySem.W.Fast.te14364793385576792824]; kernel_rfl
theorem lbfalse45 (w : World) (os : OsState) (k : Result → Sem Fin) (hd : Option Value) (g : Bool) (l : List Value) (cd : Code) (p₀ : Pos) (kept : List Value) (f2 : Frame) (stk : List Frame) : segGoT treeTable pw (w.withFollow "special-get-raises" false) 11 anns 1 20 (SB45 (w.withFollow "special-get-raises" false) os) (thG treeTable k hd g l cd p₀ kept f2 stk) = some (SB46 (w.withFollow "special-get-raises" false) os, (thG treeTable k hd g l cd p₀ kept f2 stk)) := by
  rw [PySem.W.Fast.te10295753902157049106, PySem.W.Fast.te14364793385576792824]; kernel_rfl
theorem lbfalse46 (w : World) (os : OsState) (k : Result → Sem Fin) (hd : Option Value) (g : Bool) (l : List Value) (cd : Code) (p₀ : Pos) (kept : List Value) (f2 : Frame) (stk : List Frame) : segGoT treeTable pw (w.withFollow "special-get-raises" false) 11 anns 1 20 (SB46 (w.withFollow "special-get-raises" false) os) (thG treeTable k hd g l cd p₀ kept f2 stk) = some (SB47 (w.withFollow "special-get-raises" false) os, (thG treeTable k hd g l cd p₀ kept f2 stk)) := by
  rw [PySem.W.Fast.te10295753902157049106, PySem.W.Fast.te14364793385576792824]; kernel_rfl
theorem lbfalse47 (w : World) (os : OsState) (k : Result → Sem Fin) (hd : Option Value) (g : Bool) (l : List Value) (cd : Code) (p₀ : Pos) (kept : List Value) (f2 : Frame) (stk : List Frame) : segGoT treeTable pw (w.withFollow "special-get-raises" false) 11 anns 1 20 (SB47 (w.withFollow "special-get-raises" false) os) (thG treeTable k hd g l cd p₀ kept f2 stk) = some (SB48 (w.withFollow "special-get-raises" false) os, (thG treeTable k hd g l cd p₀ kept f2 stk)) := by
  rw [PySem.W.Fast.te10295753902157049106, PySem.W.Fast.te14364793385576792824]; kernel_rfl
theorem lbfalse48 (w : World) (os : OsState) (k : Result → Sem Fin) (hd : Option Value) (g : Bool) (l : List Value) (cd : Code) (p₀ : Pos) (kept : List Value) (f2 : Frame) (stk : List Frame) : segGoT treeTable pw (w.withFollow "special-get-raises" false) 11 anns 1 20 (SB48 (w.withFollow "special-get-raises" false) os) (thG treeTable k hd g l cd p₀ kept f2 stk) = some (SB49 (w.withFollow "special-get-raises" false) os, (thG treeTable k hd g l cd p₀ kept f2 stk)) := by
  rw [PySem.W.Fast.te10295753902157049106, PySem.W.Fast.te14364793385576792824]; kernel_rfl
theorem lbfalse49 (w : World) (os : OsState) (k : Result → Sem Fin) (hd : Option Value) (g : Bool) (l : List Value) (cd : Code) (p₀ : Pos) (kept : List Value) (f2 : Frame) (stk : List Frame) : segGoT treeTable pw (w.withFollow "special-get-raises" false) 11 anns 1 20 (SB49 (w.withFollow "special-get-raises" false) os) (thG treeTable k hd g l cd p₀ kept f2 stk) = some (SB50 (w.withFollow "special-get-raises" false) os, (thG treeTable k hd g l cd p₀ kept f2 stk)) := by
  rw [PySem.W.Fast.te10295753902157049106, PySem.W.Fast.te14364793385576792824]; kernel_rfl
theorem lbfalse50 (w : World) (os : OsState) (k : Result → Sem Fin) (hd : Option Value) (g : Bool) (l : List Value) (cd : Code) (p₀ : Pos) (kept : List Value) (f2 : Frame) (stk : List Frame) : segGoT treeTable pw (w.withFollow "special-get-raises" false) 11 anns 1 20 (SB50 (w.withFollow "special-get-raises" false) os) (thG treeTable k hd g l cd p₀ kept f2 stk) = some (SB51 (w.withFollow "special-get-raises" false) os, (thG treeTable k hd g l cd p₀ kept f2 stk)) := by
  rw [PySem.W.Fast.te10295753902157049106, PySem.W.Fast.te14364793385576792824]; kernel_rfl
theorem lbfalse51 (w : World) (os : OsState) (k : Result → Sem Fin) (hd : Option Value) (g : Bool) (l : List Value) (cd : Code) (p₀ : Pos) (kept : List Value) (f2 : Frame) (stk : List Frame) : segGoT treeTable pw (w.withFollow "special-get-raises" false) 11 anns 1 20 (SB51 (w.withFollow "special-get-raises" false) os) (thG treeTable k hd g l cd p₀ kept f2 stk) = some (SB52 (w.withFollow "special-get-raises" false) os, (thG treeTable k hd g l cd p₀ kept f2 stk)) := by
  rw [PySem.W.Fast.te10295753902157049106, PySem.W.Fast.te14364793385576792824]; kernel_rfl
theorem lbfalse52 (w : World) (os : OsState) (k : Result → Sem Fin) (hd : Option Value) (g : Bool) (l : List Value) (cd : Code) (p₀ : Pos) (kept : List Value) (f2 : Frame) (stk : List Frame) : segGoT treeTable pw (w.withFollow "special-get-raises" false) 11 anns 1 20 (SB52 (w.withFollow "special-get-raises" false) os) (thG treeTable k hd g l cd p₀ kept f2 stk) = some (SB53 (w.withFollow "special-get-raises" false) os, (thG treeTable k hd g l cd p₀ kept f2 stk)) := by
  rw [PySem.W.Fast.te10295753902157049106, PySem.W.Fast.te14364793385576792824]; kernel_rfl
theorem lbfalse53 (w : World) (os : OsState) (k : Result → Sem Fin) (hd : Option Value) (g : Bool) (l : List Value) (cd : Code) (p₀ : Pos) (kept : List Value) (f2 : Frame) (stk : List Frame) : segGoT treeTable pw (w.withFollow "special-get-raises" false) 11 anns 1 20 (SB53 (w.withFollow "special-get-raises" false) os) (thG treeTable k hd g l cd p₀ kept f2 stk) = some (SB54 (w.withFollow "special-get-raises" false) os, (thG treeTable k hd g l cd p₀ kept f2 stk)) := by
  rw [PySem.W.Fast.te10295753902157049106, PySem.W.Fast.te14364793385576792824]; kernel_rfl
theorem lbfalse54 (w : World) (os : OsState) (k : Result → Sem Fin) (hd : Option Value) (g : Bool) (l : List Value) (cd : Code) (p₀ : Pos) (kept : List Value) (f2 : Frame) (stk : List Frame) : segGoT treeTable pw (w.withFollow "special-get-raises" false) 11 anns 1 20 (SB54 (w.withFollow "special-get-raises" false) os) (thG treeTable k hd g l cd p₀ kept f2 stk) = some (SB55 (w.withFollow "special-get-raises" false) os, (thG treeTable k hd g l cd p₀ kept f2 stk)) := by
  rw [PySem.W.Fast.te10295753902157049106, PySem.W.Fast.te14364793385576792824]; kernel_rfl
theorem lbfalse55 (w : World) (os : OsState) (k : Result → Sem Fin) (hd : Option Value) (g : Bool) (l : List Value) (cd : Code) (p₀ : Pos) (kept : List Value) (f2 : Frame) (stk : List Frame) : segGoT treeTable pw (w.withFollow "special-get-raises" false) 11 anns 1 20 (SB55 (w.withFollow "special-get-raises" false) os) (thG treeTable k hd g l cd p₀ kept f2 stk) = some (SB56 (w.withFollow "special-get-raises" false) os, (thG treeTable k hd g l cd p₀ kept f2 stk)) := by
  rw [PySem.W.Fast.te10295753902157049106, PySem.W.Fast.te14364793385576792824]; kernel_rfl
theorem lbfalse56 (w : World) (os : OsState) (k : Result → Sem Fin) (hd : Option Value) (g : Bool) (l : List Value) (cd : Code) (p₀ : Pos) (kept : List Value) (f2 : Frame) (stk : List Frame) : segGoT treeTable pw (w.withFollow "special-get-raises" false) 11 anns 1 20 (SB56 (w.withFollow "special-get-raises" false) os) (thG treeTable k hd g l cd p₀ kept f2 stk) = some (SB57 (w.withFollow "special-get-raises" false) os, (thG treeTable k hd g l cd p₀ kept f2 stk)) := by
  rw [PySem.W.Fast.te10295753902157049106, PySem.W.Fast.te14364793385576792824]; kernel_rfl
theorem lbfalse57 (w : World) (os : OsState) (k : Result → Sem Fin) (hd : Option Value) (g : Bool) (l : List Value) (cd : Code) (p₀ : Pos) (kept : List Value) (f2 : Frame) (stk : List Frame) : segGoT treeTable pw (w.withFollow "special-get-raises" false) 11 anns 1 20 (SB57 (w.withFollow "special-get-raises" false) os) (thG treeTable k hd g l cd p₀ kept f2 stk) = some (SB58 (w.withFollow "special-get-raises" false) os, (thG treeTable k hd g l cd p₀ kept f2 stk)) := by
  rw [PySem.W.Fast.te10295753902157049106, PySem.W.Fast.te14364793385576792824]; kernel_rfl
theorem lbfalse58 (w : World) (os : OsState) (k : Result → Sem Fin) (hd : Option Value) (g : Bool) (l : List Value) (cd : Code) (p₀ : Pos) (kept : List Value) (f2 : Frame) (stk : List Frame) : segGoT treeTable pw (w.withFollow "special-get-raises" false) 11 anns 1 20 (SB58 (w.withFollow "special-get-raises" false) os) (thG treeTable k hd g l cd p₀ kept f2 stk) = some (SB59 (w.withFollow "special-get-raises" false) os, (thG treeTable k hd g l cd p₀ kept f2 stk)) := by
  rw [PySem.W.Fast.te10295753902157049106, PySem.W.Fast.te14364793385576792824]; kernel_rfl
theorem lbfalse59 (w : World) (os : OsState) (k : Result → Sem Fin) (hd : Option Value) (g : Bool) (l : List Value) (cd : Code) (p₀ : Pos) (kept : List Value) (f2 : Frame) (stk : List Frame) : segGoT treeTable pw (w.withFollow "special-get-raises" false) 11 anns 1 20 (SB59 (w.withFollow "special-get-raises" false) os) (thG treeTable k hd g l cd p₀ kept f2 stk) = some (SB60 (w.withFollow "special-get-raises" false) os, (thG treeTable k hd g l cd p₀ kept f2 stk)) := by
  rw [PySem.W.Fast.te10295753902157049106, PySem.W.Fast.te14364793385576792824]; kernel_rfl
theorem lbfalse60 (w : World) (os : OsState) (k : Result → Sem Fin) (hd : Option Value) (g : Bool) (l : List Value) (cd : Code) (p₀ : Pos) (kept : List Value) (f2 : Frame) (stk : List Frame) : segGoT treeTable pw (w.withFollow "special-get-raises" false) 11 anns 1 20 (SB60 (w.withFollow "special-get-raises" false) os) (thG treeTable k hd g l cd p₀ kept f2 stk) = some (SB61 (w.withFollow "special-get-raises" false) os, (thG treeTable k hd g l cd p₀ kept f2 stk)) := by
  rw [PySem.W.Fast.te10295753902157049106, PySem.W.Fast.te14364793385576792824]; kernel_rfl
theorem lbfalse61 (w : World) (os : OsState) (k : Result → Sem Fin) (hd : Option Value) (g : Bool) (l : List Value) (cd : Code) (p₀ : Pos) (kept : List Value) (f2 : Frame) (stk : List Frame) : segGoT treeTable pw (w.withFollow "special-get-raises" false) 11 anns 1 20 (SB61 (w.withFollow "special-get-raises" false) os) (thG treeTable k hd g l cd p₀ kept f2 stk) = some (SB62 (w.withFollow "special-get-raises" false) os, (thG treeTable k hd g l cd p₀ kept f2 stk)) := by
  rw [PySem.W.Fast.te10295753902157049106, PySem.W.Fast.te14364793385576792824]; kernel_rfl
theorem lbfalse62 (w : World) (os : OsState) (k : Result → Sem Fin) (hd : Option Value) (g : Bool) (l : List Value) (cd : Code) (p₀ : Pos) (kept : List Value) (f2 : Frame) (stk : List Frame) : segGoT treeTable pw (w.withFollow "special-get-raises" false) 11 anns 1 20 (SB62 (w.withFollow "special-get-raises" false) os) (thG treeTable k hd g l cd p₀ kept f2 stk) = some (SB63 (w.withFollow "special-get-raises" false) os, (thG treeTable k hd g l cd p₀ kept f2 stk)) := by
  rw [PySem.W.Fast.te10295753902157049106, PySem.W.Fast.te14364793385576792824]; kernel_rfl
theorem lbfalse63 (w : World) (os : OsState) (k : Result → Sem Fin) (hd : Option Value) (g : Bool) (l : List Value) (cd : Code) (p₀ : Pos) (kept : List Value) (f2 : Frame) (stk : List Frame) : segGoT treeTable pw (w.withFollow "special-get-raises" false) 11 anns 1 20 (SB63 (w.withFollow "special-get-raises" false) os) (thG treeTable k hd g l cd p₀ kept f2 stk) = some (SB64 (w.withFollow "special-get-raises" false) os, (thG treeTable k hd g l cd p₀ kept f2 stk)) := by
  rw [PySem.W.Fast.te10295753902157049106, PySem.W.Fast.te14364793385576792824]; kernel_rfl
theorem lbfalse64 (w : World) (os : OsState) (k : Result → Sem Fin) (hd : Option Value) (g : Bool) (l : List Value) (cd : Code) (p₀ : Pos) (kept : List Value) (f2 : Frame) (stk : List Frame) : segGoT treeTable pw (w.withFollow "special-get-raises" false) 11 anns 1 20 (SB64 (w.withFollow "special-get-raises" false) os) (thG treeTable k hd g l cd p₀ kept f2 stk) = some (SB65 (w.withFollow "special-get-raises" false) os, (thG treeTable k hd g l cd p₀ kept f2 stk)) := by
  rw [PySem.W.Fast.te10295753902157049106, PySem.W.Fast.te14364793385576792824]; kernel_rfl
theorem lbfalse65 (w : World) (os : OsState) (k : Result → Sem Fin) (hd : Option Value) (g : Bool) (l : List Value) (cd : Code) (p₀ : Pos) (kept : List Value) (f2 : Frame) (stk : List Frame) : segGoT treeTable pw (w.withFollow "special-get-raises" false) 11 anns 1 20 (SB65 (w.withFollow "special-get-raises" false) os) (thG treeTable k hd g l cd p₀ kept f2 stk) = some (SB66 (w.withFollow "special-get-raises" false) os, (thG treeTable k hd g l cd p₀ kept f2 stk)) := by
  rw [PySem.W.Fast.te10295753902157049106, PySem.W.Fast.te14364793385576792824]; kernel_rfl
theorem lbfalse66 (w : World) (os : OsState) (k : Result → Sem Fin) (hd : Option Value) (g : Bool) (l : List Value) (cd : Code) (p₀ : Pos) (kept : List Value) (f2 : Frame) (stk : List Frame) : segGoT treeTable pw (w.withFollow "special-get-raises" false) 11 anns 1 20 (SB66 (w.withFollow "special-get-raises" false) os) (thG treeTable k hd g l cd p₀ kept f2 stk) = some (SB67 (w.withFollow "special-get-raises" false) os, (thG treeTable k hd g l cd p₀ kept f2 stk)) := by
  rw [PySem.W.Fast.te10295753902157049106, PySem.W.Fast.te14364793385576792824]; kernel_rfl
theorem lbfalse67 (w : World) (os : OsState) (k : Result → Sem Fin) (hd : Option Value) (g : Bool) (l : List Value) (cd : Code) (p₀ : Pos) (kept : List Value) (f2 : Frame) (stk : List Frame) : segGoT treeTable pw (w.withFollow "special-get-raises" false) 11 anns 1 20 (SB67 (w.withFollow "special-get-raises" false) os) (thG treeTable k hd g l cd p₀ kept f2 stk) = some (SB68 (w.withFollow "special-get-raises" false) os, (thG treeTable k hd g l cd p₀ kept f2 stk)) := by
  rw [PySem.W.Fast.te10295753902157049106, PySem.W.Fast.te14364793385576792824]; kernel_rfl
theorem lbfalse68 (w : World) (os : OsState) (k : Result → Sem Fin) (hd : Option Value) (g : Bool) (l : List Value) (cd : Code) (p₀ : Pos) (kept : List Value) (f2 : Frame) (stk : List Frame) : segGoT treeTable pw (w.withFollow "special-get-raises" false) 11 anns 1 20 (SB68 (w.withFollow "special-get-raises" false) os) (thG treeTable k hd g l cd p₀ kept f2 stk) = some (SB69 (w.withFollow "special-get-raises" false) os, (thG treeTable k hd g l cd p₀ kept f2 stk)) := by
  rw [PySem.W.Fast.te10295753902157049106, PySem.W.Fast.te14364793385576792824]; kernel_rfl
theorem lbfalse69 (w : World) (os : OsState) (k : Result → Sem Fin) (hd : Option Value) (g : Bool) (l : List Value) (cd : Code) (p₀ : Pos) (kept : List Value) (f2 : Frame) (stk : List Frame) : segGoT treeTable pw (w.withFollow "special-get-raises" false) 11 anns 1 20 (SB69 (w.withFollow "special-get-raises" false) os) (thG treeTable k hd g l cd p₀ kept f2 stk) = some (SB70 (w.withFollow "special-get-raises" false) os, (thG treeTable k hd g l cd p₀ kept f2 stk)) := by
  rw [PySem.W.Fast.te10295753902157049106, PySem.W.Fast.te14364793385576792824]; kernel_rfl
theorem lbfalse70 (w : World) (os : OsState) (k : Result → Sem Fin) (hd : Option Value) (g : Bool) (l : List Value) (cd : Code) (p₀ : Pos) (kept : List Value) (f2 : Frame) (stk : List Frame) : segGoT treeTable pw (w.withFollow "special-get-raises" false) 11 anns 1 20 (SB70 (w.withFollow "special-get-raises" false) os) (thG treeTable k hd g l cd p₀ kept f2 stk) = some (SB71 (w.withFollow "special-get-raises" false) os, (thG treeTable k hd g l cd p₀ kept f2 stk)) := by
  rw [PySem.W.Fast.te10295753902157049106, PySem.W.Fast.te14364793385576792824]; kernel_rfl
theorem lbfalse71 (w : World) (os : OsState) (k : Result → Sem Fin) (hd : Option Value) (g : Bool) (l : List Value) (cd : Code) (p₀ : Pos) (kept : List Value) (f2 : Frame) (stk : List Frame) : segGoT treeTable pw (w.withFollow "special-get-raises" false) 11 anns 1 20 (SB71 (w.withFollow "special-get-raises" false) os) (thG treeTable k hd g l cd p₀ kept f2 stk) = some (SB72 (w.withFollow "special-get-raises" false) os, (thG treeTable k hd g l cd p₀ kept f2 stk)) := by
  rw [PySem.W.Fast.te10295753902157049106, PySem.W.Fast.te14364793385576792824]; kernel_rfl
theorem lbfalse72 (w : World) (os : OsState) (k : Result → Sem Fin) (hd : Option Value) (g : Bool) (l : List Value) (cd : Code) (p₀ : Pos) (kept : List Value) (f2 : Frame) (stk : List Frame) : segGoT treeTable pw (w.withFollow "special-get-raises" false) 11 anns 1 20 (SB72 (w.withFollow "special-get-raises" false) os) (thG treeTable k hd g l cd p₀ kept f2 stk) = some (SB73 (w.withFollow "special-get-raises" false) os, (thG treeTable k hd g l cd p₀ kept f2 stk)) := by
  rw [PySem.W.Fast.te10295753902157049106, PySem.W.Fast.te14364793385576792824]; kernel_rfl
theorem lbfalse73 (w : World) (os : OsState) (k : Result → Sem Fin) (hd : Option Value) (g : Bool) (l : List Value) (cd : Code) (p₀ : Pos) (kept : List Value) (f2 : Frame) (stk : List Frame) : segGoT treeTable pw (w.withFollow "special-get-raises" false) 11 anns 1 20 (SB73 (w.withFollow "special-get-raises" false) os) (thG treeTable k hd g l cd p₀ kept f2 stk) = some (SB74 (w.withFollow "special-get-raises" false) os, (thG treeTable k hd g l cd p₀ kept f2 stk)) := by
  rw [PySem.W.Fast.te10295753902157049106, PySem.W.Fast.te14364793385576792824]; kernel_rfl
theorem lbfalse74 (w : World) (os : OsState) (k : Result → Sem Fin) (hd : Option Value) (g : Bool) (l : List Value) (cd : Code) (p₀ : Pos) (kept : List Value) (f2 : Frame) (stk : List Frame) : segGoT treeTable pw (w.withFollow "special-get-raises" false) 11 anns 1 20 (SB74 (w.withFollow "special-get-raises" false) os) (thG treeTable k hd g l cd p₀ kept f2 stk) = some (SB75 (w.withFollow "special-get-raises" false) os, (thG treeTable k hd g l cd p₀ kept f2 stk)) := by
  rw [PySem.W.Fast.te10295753902157049106, PySem.W.Fast.te14364793385576792824]; kernel_rfl
theorem lbfalse75 (w : World) (os : OsState) (k : Result → Sem Fin) (hd : Option Value) (g : Bool) (l : List Value) (cd : Code) (p₀ : Pos) (kept : List Value) (f2 : Frame) (stk : List Frame) : segGoT treeTable pw (w.withFollow "special-get-raises" false) 11 anns 1 20 (SB75 (w.withFollow "special-get-raises" false) os) (thG treeTable k hd g l cd p₀ kept f2 stk) = some (SB76 (w.withFollow "special-get-raises" false) os, (thG treeTable k hd g l cd p₀ kept f2 stk)) := by
  rw [PySem.W.Fast.te10295753902157049106, PySem.W.Fast.te14364793385576792824]; kernel_rfl
theorem lbfalse76 (w : World) (os : OsState) (k : Result → Sem Fin) (hd : Option Value) (g : Bool) (l : List Value) (cd : Code) (p₀ : Pos) (kept : List Value) (f2 : Frame) (stk : List Frame) : segGoT treeTable pw (w.withFollow "special-get-raises" false) 11 anns 1 22 (SB76 (w.withFollow "special-get-raises" false) os) (thG treeTable k hd g l cd p₀ kept f2 stk) = some (SB77 (w.withFollow "special-get-raises" false) os, (thG treeTable k hd g l cd p₀ kept f2 stk)) := by
  rw [PySem.W.Fast.te10295753902157049106, PySem.W.Fast.te14364793385576792824]; kernel_rfl
theorem lbfalse77 (w : World) (os : OsState) (k : Result → Sem Fin) (hd : Option Value) (g : Bool) (l : List Value) (cd : Code) (p₀ : Pos) (kept : List Value) (f2 : Frame) (stk : List Frame) : segGoT treeTable pw (w.withFollow "special-get-raises" false) 11 anns 1 20 (SB77 (w.withFollow "special-get-raises" false) os) (thG treeTable k hd g l cd p₀ kept f2 stk) = some (SB78 (w.withFollow "special-get-raises" false) os, (thG treeTable k hd g l cd p₀ kept f2 stk)) := by
  rw [PySem.W.Fast.te10295753902157049106, PySem.W.Fast.te14364793385576792824]; kernel_rfl
theorem lbfalse78 (w : World) (os : OsState) (k : Result → Sem Fin) (hd : Option Value) (g : Bool) (l : List Value) (cd : Code) (p₀ : Pos) (kept : List Value) (f2 : Frame) (stk : List Frame) : segGoT treeTable pw (w.withFollow "special-get-raises" false) 11 anns 1 20 (SB78 (w.withFollow "special-get-raises" false) os) (thG treeTable k hd g l cd p₀ kept f2 stk) = some (SB79 (w.withFollow "special-get-raises" false) os, (thG treeTable k hd g l cd p₀ kept f2 stk)) := by
  rw [PySem.W.Fast.te10295753902157049106, PySem.W.Fast.te14364793385576792824]; kernel_rfl
theorem lbfalse79 (w : World) (os : OsState) (k : Result → Sem Fin) (hd : Option Value) (g : Bool) (l : List Value) (cd : Code) (p₀ : Pos) (kept : List Value) (f2 : Frame) (stk : List Frame) : segGoT treeTable pw (w.withFollow "special-get-raises" false) 11 anns 1 20 (SB79 (w.withFollow "special-get-raises" false) os) (thG treeTable k hd g l cd p₀ kept f2 stk) = some (SB80 (w.withFollow "special-get-raises" false) os, (thG treeTable k hd g l cd p₀ kept f2 stk)) := by
  rw [PySem.W.Fast.te10295753902157049106, PySem.W.Fast.te14364793385576792824]; kernel_rfl
theorem lbfalse80 (w : World) (os : OsState) (k : Result → Sem Fin) (hd : Option Value) (g : Bool) (l : List Value) (cd : Code) (p₀ : Pos) (kept : List Value) (f2 : Frame) (stk : List Frame) : segGoT treeTable pw (w.withFollow "special-get-raises" false) 11 anns 1 20 (SB80 (w.withFollow "special-get-raises" false) os) (thG treeTable k hd g l cd p₀ kept f2 stk) = some (SB81 (w.withFollow "special-get-raises" false) os, (thG treeTable k hd g l cd p₀ kept f2 stk)) := by
  rw [PySem.W.Fast.te10295753902157049106, PySem.W.Fast.te14364793385576792824]; kernel_rfl
theorem lbfalse81 (w : World) (os : OsState) (k : Result → Sem Fin) (hd : Option Value) (g : Bool) (l : List Value) (cd : Code) (p₀ : Pos) (kept : List Value) (f2 : Frame) (stk : List Frame) : segGoT treeTable pw (w.withFollow "special-get-raises" false) 11 anns 1 20 (SB81 (w.withFollow "special-get-raises" false) os) (thG treeTable k hd g l cd p₀ kept f2 stk) = some (SB82 (w.withFollow "special-get-raises" false) os, (thG treeTable k hd g l cd p₀ kept f2 stk)) := by
  rw [PySem.W.Fast.te10295753902157049106, PySem.W.Fast.te14364793385576792824]; kernel_rfl
theorem lbfalse82 (w : World) (os : OsState) (k : Result → Sem Fin) (hd : Option Value) (g : Bool) (l : List Value) (cd : Code) (p₀ : Pos) (kept : List Value) (f2 : Frame) (stk : List Frame) : segGoT treeTable pw (w.withFollow "special-get-raises" false) 11 anns 1 20 (SB82 (w.withFollow "special-get-raises" false) os) (thG treeTable k hd g l cd p₀ kept f2 stk) = some (SB83 (w.withFollow "special-get-raises" false) os, (thG treeTable k hd g l cd p₀ kept f2 stk)) := by
  rw [PySem.W.Fast.te10295753902157049106, PySem.W.Fast.te14364793385576792824]; kernel_rfl
theorem lbfalse83 (w : World) (os : OsState) (k : Result → Sem Fin) (hd : Option Value) (g : Bool) (l : List Value) (cd : Code) (p₀ : Pos) (kept : List Value) (f2 : Frame) (stk : List Frame) : segGoT treeTable pw (w.withFollow "special-get-raises" false) 11 anns 1 20 (SB83 (w.withFollow "special-get-raises" false) os) (thG treeTable k hd g l cd p₀ kept f2 stk) = some (SB84 (w.withFollow "special-get-raises" false) os, (thG treeTable k hd g l cd p₀ kept f2 stk)) := by
  rw [PySem.W.Fast.te10295753902157049106, PySem.W.Fast.te14364793385576792824]; kernel_rfl
theorem lbfalse84 (w : World) (os : OsState) (k : Result → Sem Fin) (hd : Option Value) (g : Bool) (l : List Value) (cd : Code) (p₀ : Pos) (kept : List Value) (f2 : Frame) (stk : List Frame) : segGoT treeTable pw (w.withFollow "special-get-raises" false) 11 anns 1 20 (SB84 (w.withFollow "special-get-raises" false) os) (thG treeTable k hd g l cd p₀ kept f2 stk) = some (SB85 (w.withFollow "special-get-raises" false) os, (thG treeTable k hd g l cd p₀ kept f2 stk)) := by
  rw [PySem.W.Fast.te10295753902157049106, PySem.W.Fast.te14364793385576792824]; kernel_rfl
theorem lbfalse85 (w : World) (os : OsState) (k : Result → Sem Fin) (hd : Option Value) (g : Bool) (l : List Value) (cd : Code) (p₀ : Pos) (kept : List Value) (f2 : Frame) (stk : List Frame) : segGoT treeTable pw (w.withFollow "special-get-raises" false) 11 anns 1 20 (SB85 (w.withFollow "special-get-raises" false) os) (thG treeTable k hd g l cd p₀ kept f2 stk) = some (SB86 (w.withFollow "special-get-raises" false) os, (thG treeTable k hd g l cd p₀ kept f2 stk)) := by
  rw [PySem.W.Fast.te10295753902157049106, PySem.W.Fast.te14364793385576792824]; kernel_rfl
theorem lbfalse86 (w : World) (os : OsState) (k : Result → Sem Fin) (hd : Option Value) (g : Bool) (l : List Value) (cd : Code) (p₀ : Pos) (kept : List Value) (f2 : Frame) (stk : List Frame) : segGoT treeTable pw (w.withFollow "special-get-raises" false) 11 anns 1 20 (SB86 (w.withFollow "special-get-raises" false) os) (thG treeTable k hd g l cd p₀ kept f2 stk) = some (SB87 (w.withFollow "special-get-raises" false) os, (thG treeTable k hd g l cd p₀ kept f2 stk)) := by
  rw [PySem.W.Fast.te10295753902157049106, PySem.W.Fast.te14364793385576792824]; kernel_rfl
theorem lbfalse87 (w : World) (os : OsState) (k : Result → Sem Fin) (hd : Option Value) (g : Bool) (l : List Value) (cd : Code) (p₀ : Pos) (kept : List Value) (f2 : Frame) (stk : List Frame) : segGoT treeTable pw (w.withFollow "special-get-raises" false) 11 anns 1 20 (SB87 (w.withFollow "special-get-raises" false) os) (thG treeTable k hd g l cd p₀ kept f2 stk) = some (SB88 (w.withFollow "special-get-raises" false) os, (thG treeTable k hd g l cd p₀ kept f2 stk)) := by
  rw [PySem.W.Fast.te10295753902157049106, PySem.W.Fast.te14364793385576792824]; kernel_rfl
theorem lbfalse88 (w : World) (os : OsState) (k : Result → Sem Fin) (hd : Option Value) (g : Bool) (l : List Value) (cd : Code) (p₀ : Pos) (kept : List Value) (f2 : Frame) (stk : List Frame) : segGoT treeTable pw (w.withFollow "special-get-raises" false) 11 anns 1 20 (SB88 (w.withFollow "special-get-raises" false) os) (thG treeTable k hd g l cd p₀ kept f2 stk) = some (SB89 (w.withFollow "special-get-raises" false) os, (thG treeTable k hd g l cd p₀ kept f2 stk)) := by
  rw [PySem.W.Fast.te10295753902157049106, PySem.W.Fast.te14364793385576792824]; kernel_rfl
theorem lbfalse89 (w : World) (os : OsState) (k : Result → Sem Fin) (hd : Option Value) (g : Bool) (l : List Value) (cd : Code) (p₀ : Pos) (kept : List Value) (f2 : Frame) (stk : List Frame) : segGoT treeTable pw (w.withFollow "special-get-raises" false) 11 anns 1 20 (SB89 (w.withFollow "special-get-raises" false) os) (thG treeTable k hd g l cd p₀ kept f2 stk) = some (SB90 (w.withFollow "special-get-raises" false) os, (thG treeTable k hd g l cd p₀ kept f2 stk)) := by
  rw [PySem.W.Fast.te10295753902157049106, PySem.W.Fast.te14364793385576792824]; kernel_rfl
theorem lbfalse90 (w : World) (os : OsState) (k : Result → Sem Fin) (hd : Option Value) (g : Bool) (l : List Value) (cd : Code) (p₀ : Pos) (kept : List Value) (f2 : Frame) (stk : List Frame) : segGoT treeTable pw (w.withFollow "special-get-raises" false) 11 anns 1 20 (SB90 (w.withFollow "special-get-raises" false) os) (thG treeTable k hd g l cd p₀ kept f2 stk) = some (SB91 (w.withFollow "special-get-raises" false) os, (thG treeTable k hd g l cd p₀ kept f2 stk)) := by
  rw [PySem.W.Fast.te10295753902157049106, PySem.W.Fast.te14364793385576792824]; kernel_rfl
theorem lbfalse91 (w : World) (os : OsState) (k : Result → Sem Fin) (hd : Option Value) (g : Bool) (l : List Value) (cd : Code) (p₀ : Pos) (kept : List Value) (f2 : Frame) (stk : List Frame) : segGoT treeTable pw (w.withFollow "special-get-raises" false) 11 anns 1 20 (SB91 (w.withFollow "special-get-raises" false) os) (thG treeTable k hd g l cd p₀ kept f2 stk) = some (SB92 (w.withFollow "special-get-raises" false) os, (thG treeTable k hd g l cd p₀ kept f2 stk)) := by
  rw [PySem.W.Fast.te10295753902157049106, PySem.W.Fast.te14364793385576792824]; kernel_rfl
theorem lbfalse92 (w : World) (os : OsState) (k : Result → Sem Fin) (hd : Option Value) (g : Bool) (l : List Value) (cd : Code) (p₀ : Pos) (kept : List Value) (f2 : Frame) (stk : List Frame) : segGoT treeTable pw (w.withFollow "special-get-raises" false) 11 anns 1 20 (SB92 (w.withFollow "special-get-raises" false) os) (thG treeTable k hd g l cd p₀ kept f2 stk) = some (SB93 (w.withFollow "special-get-raises" false) os, (thG treeTable k hd g l cd p₀ kept f2 stk)) := by
  rw [PySem.W.Fast.te10295753902157049106, PySem.W.Fast.te14364793385576792824]; kernel_rfl
theorem lbfalse93 (w : World) (os : OsState) (k : Result → Sem Fin) (hd : Option Value) (g : Bool) (l : List Value) (cd : Code) (p₀ : Pos) (kept : List Value) (f2 : Frame) (stk : List Frame) : segGoT treeTable pw (w.withFollow "special-get-raises" false) 11 anns 1 20 (SB93 (w.withFollow "special-get-raises" false) os) (thG treeTable k hd g l cd p₀ kept f2 stk) = some (SB94 (w.withFollow "special-get-raises" false) os, (thG treeTable k hd g l cd p₀ kept f2 stk)) := by
  rw [PySem.W.Fast.te10295753902157049106, PySem.W.Fast.te14364793385576792824]; kernel_rfl
theorem lbfalse94 (w : World) (os : OsState) (k : Result → Sem Fin) (hd : Option Value) (g : Bool) (l : List Value) (cd : Code) (p₀ : Pos) (kept : List Value) (f2 : Frame) (stk : List Frame) : segGoT treeTable pw (w.withFollow "special-get-raises" false) 11 anns 1 20 (SB94 (w.withFollow "special-get-raises" false) os) (thG treeTable k hd g l cd p₀ kept f2 stk) = some (SB95 (w.withFollow "special-get-raises" false) os, (thG treeTable k hd g l cd p₀ kept f2 stk)) := by
  rw [PySem.W.Fast.te10295753902157049106, PySem.W.Fast.te14364793385576792824]; kernel_rfl
theorem lbfalse95 (w : World) (os : OsState) (k : Result → Sem Fin) (hd : Option Value) (g : Bool) (l : List Value) (cd : Code) (p₀ : Pos) (kept : List Value) (f2 : Frame) (stk : List Frame) : segGoT treeTable pw (w.withFollow "special-get-raises" false) 11 anns 1 20 (SB95 (w.withFollow "special-get-raises" false) os) (thG treeTable k hd g l cd p₀ kept f2 stk) = some (SB96 (w.withFollow "special-get-raises" false) os, (thG treeTable k hd g l cd p₀ kept f2 stk)) := by
  rw [PySem.W.Fast.te10295753902157049106, PySem.W.Fast.te14364793385576792824]; kernel_rfl
theorem lbfalse96 (w : World) (os : OsState) (k : Result → Sem Fin) (hd : Option Value) (g : Bool) (l : List Value) (cd : Code) (p₀ : Pos) (kept : List Value) (f2 : Frame) (stk : List Frame) : segGoT treeTable pw (w.withFollow "special-get-raises" false) 11 anns 1 20 (SB96 (w.withFollow "special-get-raises" false) os) (thG treeTable k hd g l cd p₀ kept f2 stk) = some (SB97 (w.withFollow "special-get-raises" false) os, (thG treeTable k hd g l cd p₀ kept f2 stk)) := by
  rw [PySem.W.Fast.te10295753902157049106, PySem.W.Fast.te14364793385576792824]; kernel_rfl
noncomputable def nB : Nat := (102 + (20 + (20 + (20 + (20 + (20 + (20 + (20 + (20 + (20 + (20 + (20 + (20 + (20 + (22 + (20 + (20 + (20 + (20 + (20 + (20 + (20 + (20 + (20 + (20 + (20 + (20 + (20 + (20 + (20 + (20 + (20 + (20 + (20 + (20 + (20 + (20 + (20 + (20 + (20 + (20 + (20 + (20 + (20 + (20 + (20 + (20 + (20 + (20 + (20 + (20 + (20 + (20 + (20 + (20 + (20 + (20 + (20 + (20 + (20 + (20 + (20 + (20 + (20 + (20 + (20 + (20 + (20 + (20 + (20 + (20 + (20 + (22 + (20 + (20 + (20 + (20 + (20 + (20 + (20 + (20 + (20 + (20 + (20 + (20 + (20 + (20 + (20 + (20 + (20 + (20 + (20 + 20))))))))))))))))))))))))))))))))))))))))))))))))))))))))))))))))))))))))))))))))))))))))))))
theorem loopfalse (w : World) (os : OsState) (k : Result → Sem Fin) (hd : Option Value) (g : Bool) (l : List Value) (cd : Code) (p₀ : Pos) (kept : List Value) (f2 : Frame) (stk : List Frame) : segGoT treeTable pw (w.withFollow "special-get-raises" false) 11 anns 1 nB (SB0 (w.withFollow "special-get-raises" false) os) (thG treeTable k hd g l cd p₀ kept f2 stk) = some (SB97 (w.withFollow "special-get-raises" false) os, (thG treeTable k hd g l cd p₀ kept f2 stk)) :=
  (goT_add (lbfalse0 w os k hd g l cd p₀ kept f2 stk) (goT_add (lbfalse5 w os k hd g l cd p₀ kept f2 stk) (goT_add (lbfalse6 w os k hd g l cd p₀ kept f2 stk) (goT_add (lbfalse7 w os k hd g l cd p₀ kept f2 stk) (goT_add (lbfalse8 w os k hd g l cd p₀ kept f2 stk) (goT_add (lbfalse9 w os k hd g l cd p₀ kept f2 stk) (goT_add (lbfalse10 w os k hd g l cd p₀ kept f2 stk) (goT_add (lbfalse11 w os k hd g l cd p₀ kept f2 stk) (goT_add (lbfalse12 w os k hd g l cd p₀ kept f2 stk) (goT_add (lbfalse13 w os k hd g l cd p₀ kept f2 stk) (goT_add (lbfalse14 w os k hd g l cd p₀ kept f2 stk) (goT_add (lbfalse15 w os k hd g l cd p₀ kept f2 stk) (goT_add (lbfalse16 w os k hd g l cd p₀ kept f2 stk) (goT_add (lbfalse17 w os k hd g l cd p₀ kept f2 stk) (goT_add (lbfalse18 w os k hd g l cd p₀ kept f2 stk) (goT_add (lbfalse19 w os k hd g l cd p₀ kept f2 stk) (goT_add (lbfalse20 w os k hd g l cd p₀ kept f2 stk) (goT_add (lbfalse21 w os k hd g l cd p₀ kept f2 stk) (goT_add (lbfalse22 w os k hd g l cd p₀ kept f2 stk) (goT_add (lbfalse23 w os k hd g l cd p₀ kept f2 stk) (goT_add (lbfalse24 w os k hd g l cd p₀ kept f2 stk) (goT_add (lbfalse25 w os k hd g l cd p₀ kept f2 stk) (goT_add (lbfalse26 w os k hd g l cd p₀ kept f2 stk) (goT_add (lbfalse27 w os k hd g l cd p₀ kept f2 stk) (goT_add (lbfalse28 w os k hd g l cd p₀ kept f2 stk) (goT_add (lbfalse29 w os k hd g l cd p₀ kept f2 stk) (goT_add (lbfalse30 w os k hd g l cd p₀ kept f2 stk) (goT_add (lbfalse31 w os k hd g l cd p₀ kept f2 stk) (goT_add (lbfalse32 w os k hd g l cd p₀ kept f2 stk) (goT_add (lbfalse33 w os k hd g l cd p₀ kept f2 stk) (goT_add (lbfalse34 w os k hd g l cd p₀ kept f2 stk) (goT_add (lbfalse35 w os k hd g l cd p₀ kept f2 stk) (goT_add (lbfalse36 w os k hd g l cd p₀ kept f2 stk) (goT_add (lbfalse37 w os k hd g l cd p₀ kept f2 stk) (goT_add (lbfalse38 w os k hd g l cd p₀ kept f2 stk) (goT_add (lbfalse39 w os k hd g l cd p₀ kept f2 stk) (goT_add (lbfalse40 w os k hd g l cd p₀ kept f2 stk) (goT_add (lbfalse41 w os k hd g l cd p₀ kept f2 stk) (goT_add (lbfalse42 w os k hd g l cd p₀ kept f2 stk) (goT_add (lbfalse43 w os k hd g l cd p₀ kept f2 stk) (goT_add (lbfalse44 w os k hd g l cd p₀ kept f2 stk) (goT_add (lbfalse45 w os k hd g l cd p₀ kept f2 stk) (goT_add (lbfalse46 w os k hd g l cd p₀ kept f2 stk) (goT_add (lbfalse47 w os k hd g l cd p₀ kept f2 stk) (goT_add (lbfalse48 w os k hd g l cd p₀ kept f2 stk) (goT_add (lbfalse49 w os k hd g l cd p₀ kept f2 stk) (goT_add (lbfalse50 w os k hd g l cd p₀ kept f2 stk) (goT_add (lbfalse51 w os k hd g l cd p₀ kept f2 stk) (goT_add (lbfalse52 w os k hd g l cd p₀ kept f2 stk) (goT_add (lbfalse53 w os k hd g l cd p₀ kept f2 stk) (goT_add (lbfalse54 w os k hd g l cd p₀ kept f2 stk) (goT_add (lbfalse55 w os k hd g l cd p₀ kept f2 stk) (goT_add (lbfalse56 w os k hd g l cd p₀ kept f2 stk) (goT_add (lbfalse57 w os k hd g l cd p₀ kept f2 stk) (goT_add (lbfalse58 w os k hd g l cd p₀ kept f2 stk) (goT_add (lbfalse59 w os k hd g l cd p₀ kept f2 stk) (goT_add (lbfalse60 w os k hd g l cd p₀ kept f2 stk) (goT_add (lbfalse61 w os k hd g l cd p₀ kept f2 stk) (goT_add (lbfalse62 w os k hd g l cd p₀ kept f2 stk) (goT_add (lbfalse63 w os k hd g l cd p₀ kept f2 stk) (goT_add (lbfalse64 w os k hd g l cd p₀ kept f2 stk) (goT_add (lbfalse65 w os k hd g l cd p₀ kept f2 stk) (goT_add (lbfalse66 w os k hd g l cd p₀ kept f2 stk) (goT_add (lbfalse67 w os k hd g l cd p₀ kept f2 stk) (goT_add (lbfalse68 w os k hd g l cd p₀ kept f2 stk) (goT_add (lbfalse69 w os k hd g l cd p₀ kept f2 stk) (goT_add (lbfalse70 w os k hd g l cd p₀ kept f2 stk) (goT_add (lbfalse71 w os k hd g l cd p₀ kept f2 stk) (goT_add (lbfalse72 w os k hd g l cd p₀ kept f2 stk) (goT_add (lbfalse73 w os k hd g l cd p₀ kept f2 stk) (goT_add (lbfalse74 w os k hd g l cd p₀ kept f2 stk) (goT_add (lbfalse75 w os k hd g l cd p₀ kept f2 stk) (goT_add (lbfalse76 w os k hd g l cd p₀ kept f2 stk) (goT_add (lbfalse77 w os k hd g l cd p₀ kept f2 stk) (goT_add (lbfalse78 w os k hd g l cd p₀ kept f2 stk) (goT_add (lbfalse79 w os k hd g l cd p₀ kept f2 stk) (goT_add (lbfalse80 w os k hd g l cd p₀ kept f2 stk) (goT_add (lbfalse81 w os k hd g l cd p₀ kept f2 stk) (goT_add (lbfalse82 w os k hd g l cd p₀ kept f2 stk) (goT_add (lbfalse83 w os k hd g l cd p₀ kept f2 stk) (goT_add (lbfalse84 w os k hd g l cd p₀ kept f2 stk) (goT_add (lbfalse85 w os k hd g l cd p₀ kept f2 stk) (goT_add (lbfalse86 w os k hd g l cd p₀ kept f2 stk) (goT_add (lbfalse87 w os k hd g l cd p₀ kept f2 stk) (goT_add (lbfalse88 w os k hd g l cd p₀ kept f2 stk) (goT_add (lbfalse89 w os k hd g l cd p₀ kept f2 stk) (goT_add (lbfalse90 w os k hd g l cd p₀ kept f2 stk) (goT_add (lbfalse91 w os k hd g l cd p₀ kept f2 stk) (goT_add (lbfalse92 w os k hd g l cd p₀ kept f2 stk) (goT_add (lbfalse93 w os k hd g l cd p₀ kept f2 stk) (goT_add (lbfalse94 w os k hd g l cd p₀ kept f2 stk) (goT_add (lbfalse95 w os k hd g l cd p₀ kept f2 stk) (lbfalse96 w os k hd g l cd p₀ kept f2 stk)))))))))))))))))))))))))))))))))))))))))))))))))))))))))))))))))))))))))))))))))))))))))))))
theorem lbtrue0 (w : World) (os : OsState) (k : Result → Sem Fin) (hd : Option Value) (g : Bool) (l : List Value) (cd : Code) (p₀ : Pos) (kept : List Value) (f2 : Frame) (stk : List Frame) : segGoT treeTable pw (w.withFollow "special-get-raises" true) 11 anns 1 102 (SB0 (w.withFollow "special-get-raises" true) os) (thG treeTable k hd g l cd p₀ kept f2 stk) = some (SB5 (w.withFollow "special-get-raises" true) os, (thG treeTable k hd g l cd p₀ kept f2 stk)) := by
  rw [PySem.W.Fast.te10295753902157049106, PySem.W.Fast.te14364793385576792824]; kernel_rfl
theorem lbtrue5 (w : World) (os : OsState) (k : Result → Sem Fin) (hd : Option Value) (g : Bool) (l : List Value) (cd : Code) (p₀ : Pos) (kept : List Value) (f2 : Frame) (stk : List Frame) : segGoT treeTable pw (w.withFollow "special-get-raises" true) 11 anns 1 20 (SB5 (w.withFollow "special-get-raises" true) os) (thG treeTable k hd g l cd p₀ kept f2 stk) = some (SB6 (w.withFollow "special-get-raises" true) os, (thG treeTable k hd g l cd p₀ kept f2 stk)) := by
  rw [PySem.W.Fast.te10295753902157049106, PySem.W.Fast.te14364793385576792824]; kernel_rfl
theorem lbtrue6 (w : World) (os : OsState) (k : Result → Sem Fin) (hd : Option Value) (g : Bool) (l : List Value) (cd : Code) (p₀ : Pos) (kept : List Value) (f2 : Frame) (stk : List Frame) : segGoT treeTable pw (w.withFollow "special-get-raises" true) 11 anns 1 20 (SB6 (w.withFollow "special-get-raises" true) os) (thG treeTable k hd g l cd p₀ kept f2 stk) = some (SB7 (w.withFollow "special-get-raises" true) os, (thG treeTable k hd g l cd p₀ kept f2 stk)) := by
  rw [PySem.W.Fast.te10295753902157049106, PySem.W.Fast.te14364793385576792824]; kernel_rfl
theorem lbtrue7 (w : World) (os : OsState) (k : Result → Sem Fin) (hd : Option Value) (g : Bool) (l : List Value) (cd : Code) (p₀ : Pos) (kept : List Value) (f2 : Frame) (stk : List Frame) : segGoT treeTable pw (w.withFollow "special-get-raises" true) 11 anns 1 20 (SB7 (w.withFollow "special-get-raises" true) os) (thG treeTable k hd g l cd p₀ kept f2 stk) = some (SB8 (w.withFollow "special-get-raises" true) os, (thG treeTable k hd g l cd p₀ kept f2 stk)) := by
  rw [PySem.W.Fast.te10295753902157049106, PySem.W.Fast.te14364793385576792824]; kernel_rfl
theorem lbtrue8 (w : World) (os : OsState) (k : Result → Sem Fin) (hd : Option Value) (g : Bool) (l : List Value) (cd : Code) (p₀ : Pos) (kept : List Value) (f2 : Frame) (stk : List Frame) : segGoT treeTable pw (w.withFollow "special-get-raises" true) 11 anns 1 20 (SB8 (w.withFollow "special-get-raises" true) os) (thG treeTable k hd g l cd p₀ kept f2 stk) = some (SB9 (w.withFollow "special-get-raises" true) os, (thG treeTable k hd g l cd p₀ kept f2 stk)) := by
  rw [PySem.W.Fast.te10295753902157049106, PySem.W.Fast.te14364793385576792824]; kernel_rfl
theorem lbtrue9 (w : World) (os : OsState) (k : Result → Sem Fin) (hd : Option Value) (g : Bool) (l : List Value) (cd : Code) (p₀ : Pos) (kept : List Value) (f2 : Frame) (stk : List Frame) : segGoT treeTable pw (w.withFollow "special-get-raises" true) 11 anns 1 20 (SB9 (w.withFollow "special-get-raises" true) os) (thG treeTable k hd g l cd p₀ kept f2 stk) = some (SB10 (w.withFollow "special-get-raises" true) os, (thG treeTable k hd g l cd p₀ kept f2 stk)) := by
  rw [PySem.W.Fast.te10295753902157049106, PySem.W.Fast.te14364793385576792824]; kernel_rfl
theorem lbtrue10 (w : World) (os : OsState) (k : Result → Sem Fin) (hd : Option Value) (g : Bool) (l : List Value) (cd : Code) (p₀ : Pos) (kept : List Value) (f2 : Frame) (stk : List Frame) : segGoT treeTable pw (w.withFollow "special-get-raises" true) 11 anns 1 20 (SB10 (w.withFollow "special-get-raises" true) os) (thG treeTable k hd g l cd p₀ kept f2 stk) = some (SB11 (w.withFollow "special-get-raises" true) os, (thG treeTable k hd g l cd p₀ kept f2 stk)) := by
  rw [PySem.W.Fast.te10295753902157049106, PySem.W.Fast.te14364793385576792824]; kernel_rfl
theorem lbtrue11 (w : World) (os : OsState) (k : Result → Sem Fin) (hd : Option Value) (g : Bool) (l : List Value) (cd : Code) (p₀ : Pos) (kept : List Value) (f2 : Frame) (stk : List Frame) : segGoT treeTable pw (w.withFollow "special-get-raises" true) 11 anns 1 20 (SB11 (w.withFollow "special-get-raises" true) os) (thG treeTable k hd g l cd p₀ kept f2 stk) = some (SB12 (w.withFollow "special-get-raises" true) os, (thG treeTable k hd g l cd p₀ kept f2 stk)) := by
  rw [PySem.W.Fast.te10295753902157049106, PySem.W.Fast.te14364793385576792824]; kernel_rfl
theorem lbtrue12 (w : World) (os : OsState) (k : Result → Sem Fin) (hd : Option Value) (g : Bool) (l : List Value) (cd : Code) (p₀ : Pos) (kept : List Value) (f2 : Frame) (stk : List Frame) : segGoT treeTable pw (w.withFollow "special-get-raises" true) 11 anns 1 20 (SB12 (w.withFollow "special-get-raises" true) os) (thG treeTable k hd g l cd p₀ kept f2 stk) = some (SB13 (w.withFollow "special-get-raises" true) os, (thG treeTable k hd g l cd p₀ kept f2 stk)) := by
  rw [PySem.W.Fast.te10295753902157049106, PySem.W.Fast.te14364793385576792824]; kernel_rfl
theorem lbtrue13 (w : World) (os : OsState) (k : Result → Sem Fin) (hd : Option Value) (g : Bool) (l : List Value) (cd : Code) (p₀ : Pos) (kept : List Value) (f2 : Frame) (stk : List Frame) : segGoT treeTable pw (w.withFollow "special-get-raises" true) 11 anns 1 20 (SB13 (w.withFollow "special-get-raises" true) os) (thG treeTable k hd g l cd p₀ kept f2 stk) = some (SB14 (w.withFollow "special-get-raises" true) os, (thG treeTable k hd g l cd p₀ kept f2 stk)) := by
  rw [PySem.W.Fast.te10295753902157049106, PySem.W.Fast.te14364793385576792824]; kernel_rfl
theorem lbtrue14 (w : World) (os : OsState) (k : Result → Sem Fin) (hd : Option Value) (g : Bool) (l : List Value) (cd : Code) (p₀ : Pos) (kept : List Value) (f2 : Frame) (stk : List Frame) : segGoT treeTable pw (w.withFollow "special-get-raises" true) 11 anns 1 20 (SB14 (w.withFollow "special-get-raises" true) os) (thG treeTable k hd g l cd p₀ kept f2 stk) = some (SB15 (w.withFollow "special-get-raises" true) os, (thG treeTable k hd g l cd p₀ kept f2 stk)) := by
  rw [PySem.W.Fast.te10295753902157049106, PySem.W.Fast.te14364793385576792824]; kernel_rfl
theorem lbtrue15 (w : World) (os : OsState) (k : Result → Sem Fin) (hd : Option Value) (g : Bool) (l : List Value) (cd : Code) (p₀ : Pos) (kept : List Value) (f2 : Frame) (stk : List Frame) : segGoT treeTable pw (w.withFollow "special-get-raises" true) 11 anns 1 20 (SB15 (w.withFollow "special-get-raises" true) os) (thG treeTable k hd g l cd p₀ kept f2 stk) = some (SB16 (w.withFollow "special-get-raises" true) os, (thG treeTable k hd g l cd p₀ kept f2 stk)) := by
  rw [PySem.W.Fast.te10295753902157049106, PySem.W.Fast.te14364793385576792824]; kernel_rfl
theorem lbtrue16 (w : World) (os : OsState) (k : Result → Sem Fin) (hd : Option Value) (g : Bool) (l : List Value) (cd : Code) (p₀ : Pos) (kept : List Value) (f2 : Frame) (stk : List Frame) : segGoT treeTable pw (w.withFollow "special-get-raises" true) 11 anns 1 20 (SB16 (w.withFollow "special-get-raises" true) os) (thG treeTable k hd g l cd p₀ kept f2 stk) = some (SB17 (w.withFollow "special-get-raises" true) os, (thG treeTable k hd g l cd p₀ kept f2 stk)) := by
  rw [PySem.W.Fast.te10295753902157049106, PySem.W.Fast.te14364793385576792824]; kernel_rfl
theorem lbtrue17 (w : World) (os : OsState) (k : Result → Sem Fin) (hd : Option Value) (g : Bool) (l : List Value) (cd : Code) (p₀ : Pos) (kept : List Value) (f2 : Frame) (stk : List Frame) : segGoT treeTable pw (w.withFollow "special-get-raises" true) 11 anns 1 20 (SB17 (w.withFollow "special-get-raises" true) os) (thG treeTable k hd g l cd p₀ kept f2 stk) = some (SB18 (w.withFollow "special-get-raises" true) os, (thG treeTable k hd g l cd p₀ kept f2 stk)) := by
  rw [PySem.W.Fast.te10295753902157049106, PySem.W.Fast.te14364793385576792824]; kernel_rfl
theorem lbtrue18 (w : World) (os : OsState) (k : Result → Sem Fin) (hd : Option Value) (g : Bool) (l : List Value) (cd : Code) (p₀ : Pos) (kept : List Value) (f2 : Frame) (stk : List Frame) : segGoT treeTable pw (w.withFollow "special-get-raises" true) 11 anns 1 22 (SB18 (w.withFollow "special-get-raises" true) os) (thG treeTable k hd g l cd p₀ kept f2 stk) = some (SB19 (w.withFollow "special-get-raises" true) os, (thG treeTable k hd g l cd p₀ kept f2 stk)) := by
  rw [PySem.W.Fast.te10295753902157049106, PySem.W.Fast.te14364793385576792824]; kernel_rfl
theorem lbtrue19 (w : World) (os : OsState) (k : Result → Sem Fin) (hd : Option Value) (g : Bool) (l : List Value) (cd : Code) (p₀ : Pos) (kept : List Value) (f2 : Frame) (stk : List Frame) : segGoT treeTable pw (w.withFollow "special-get-raises" true) 11 anns 1 20 (SB19 (w.withFollow "special-get-raises" true) os) (thG treeTable k hd g l cd p₀ kept f2 stk) = some (SB20 (w.withFollow "special-get-raises" true) os, (thG treeTable k hd g l cd p₀ kept f2 stk)) := by
  rw [PySem.W.Fast.te10295753902157049106, PySem.W.Fast.te14364793385576792824]; kernel_rfl
theorem lbtrue20 (w : World) (os : OsState) (k : Result → Sem Fin) (hd : Option Value) (g : Bool) (l : List Value) (cd : Code) (p₀ : Pos) (kept : List Value) (f2 : Frame) (stk : List Frame) : segGoT treeTable pw (w.withFollow "special-get-raises" true) 11 anns 1 20 (SB20 (w.withFollow "special-get-raises" true) os) (thG treeTable k hd g l cd p₀ kept f2 stk) = some (SB21 (w.withFollow "special-get-raises" true) os, (thG treeTable k hd g l cd p₀ kept f2 stk)) := by
  rw [PySem.W.Fast.te10295753902157049106, PySem.W.Fast.te14364793385576792824]; kernel_rfl
theorem lbtrue21 (w : World) (os : OsState) (k : Result → Sem Fin) (hd : Option Value) (g : Bool) (l : List Value) (cd : Code) (p₀ : Pos) (kept : List Value) (f2 : Frame) (stk : List Frame) : segGoT treeTable pw (w.withFollow "special-get-raises" true) 11 anns 1 20 (SB21 (w.withFollow "special-get-raises" true) os) (thG treeTable k hd g l cd p₀ kept f2 stk) = some (SB22 (w.withFollow "special-get-raises" true) os, (thG treeTable k hd g l cd p₀ kept f2 stk)) := by
  rw [PySem.W.Fast.te10295753902157049106, PySem.W.Fast.te14364793385576792824]; kernel_rfl
theorem lbtrue22 (w : World) (os : OsState) (k : Result → Sem Fin) (hd : Option Value) (g : Bool) (l : List Value) (cd : Code) (p₀ : Pos) (kept : List Value) (f2 : Frame) (stk : List Frame) : segGoT treeTable pw (w.withFollow "special-get-raises" true) 11 anns 1 20 (SB22 (w.withFollow "special-get-raises" true) os) (thG treeTable k hd g l cd p₀ kept f2 stk) = some (SB23 (w.withFollow "special-get-raises" true) os, (thG treeTable k hd g l cd p₀ kept f2 stk)) := by
  rw [PySem.W.Fast.te10295753902157049106, PySem.W.Fast.te14364793385576792824]; kernel_rfl
theorem lbtrue23 (w : World) (os : OsState) (k : Result → Sem Fin) (hd : Option Value) (g : Bool) (l : List Value) (cd : Code) (p₀ : Pos) (kept : List Value) (f2 : Frame) (stk : List Frame) : segGoT treeTable pw (w.withFollow "special-get-raises" true) 11 anns 1 20 (SB23 (w.withFollow "special-get-raises" true) os) (thG treeTable k hd g l cd p₀ kept f2 stk) = some (SB24 (w.withFollow "special-get-raises" true) os, (thG treeTable k hd g l cd p₀ kept f2 stk)) := by
  rw [PySem.W.Fast.te10295753902157049106, PySem.W.Fast.te14364793385576792824]; kernel_rfl
theorem lbtrue24 (w : World) (os : OsState) (k : Result → Sem Fin) (hd : Option Value) (g : Bool) (l : List Value) (cd : Code) (p₀ : Pos) (kept : List Value) (f2 : Frame) (stk : List Frame) : segGoT treeTable pw (w.withFollow "special-get-raises" true) 11 anns 1 20 (SB24 (w.withFollow "special-get-raises" true) os) (thG treeTable k hd g l cd p₀ kept f2 stk) = some (SB25 (w.withFollow "special-get-raises" true) os, (thG treeTable k hd g l cd p₀ kept f2 stk)) := by
  rw [PySem.W.Fast.te10295753902157049106, PySem.W.Fast.te14364793385576792824]; kernel_rfl
theorem lbtrue25 (w : World) (os : OsState) (k : Result → Sem Fin) (hd : Option Value) (g : Bool) (l : List Value) (cd : Code) (p₀ : Pos) (kept : List Value) (f2 : Frame) (stk : List Frame) : segGoT treeTable pw (w.withFollow "special-get-raises" true) 11 anns 1 20 (SB25 (w.withFollow "special-get-raises" true) os) (thG treeTable k hd g l cd p₀ kept f2 stk) = some (SB26 (w.withFollow "special-get-raises" true) os, (thG treeTable k hd g l cd p₀ kept f2 stk)) := by
  rw [PySem.W.Fast.te10295753902157049106, PySem.W.Fast.te14364793385576792824]; kernel_rfl
theorem lbtrue26 (w : World) (os : OsState) (k : Result → Sem Fin) (hd : Option Value) (g : Bool) (l : List Value) (cd : Code) (p₀ : Pos) (kept : List Value) (f2 : Frame) (stk : List Frame) : segGoT treeTable pw (w.withFollow "special-get-raises" true) 11 anns 1 20 (SB26 (w.withFollow "special-get-raises" true) os) (thG treeTable k hd g l cd p₀ kept f2 stk) = some (SB27 (w.withFollow "special-get-raises" true) os, (thG treeTable k hd g l cd p₀ kept f2 stk)) := by
  rw [PySem.W.Fast.te10295753902157049106, PySem.W.Fast.te14364793385576792824]; kernel_rfl
theorem lbtrue27 (w : World) (os : OsState) (k : Result → Sem Fin) (hd : Option Value) (g : Bool) (l : List Value) (cd : Code) (p₀ : Pos) (kept : List Value) (f2 : Frame) (stk : List Frame) : segGoT treeTable pw (w.withFollow "special-get-raises" true) 11 anns 1 20 (SB27 (w.withFollow "special-get-raises" true) os) (thG treeTable k hd g l cd p₀ kept f2 stk) = some (SB28 (w.withFollow "special-get-raises" true) os, (thG treeTable k hd g l cd p₀ kept f2 stk)) := by
  rw [PySem.W.Fast.te10295753902157049106, PySem.W.Fast.te14364793385576792824]; kernel_rfl
theorem lbtrue28 (w : World) (os : OsState) (k : Result → Sem Fin) (hd : Option Value) (g : Bool) (l : List Value) (cd : Code) (p₀ : Pos) (kept : List Value) (f2 : Frame) (stk : List Frame) : segGoT treeTable pw (w.withFollow "special-get-raises" true) 11 anns 1 20 (SB28 (w.withFollow "special-get-raises" true) os) (thG treeTable k hd g l cd p₀ kept f2 stk) = some (SB29 (w.withFollow "special-get-raises" true) os, (thG treeTable k hd g l cd p₀ kept f2 stk)) := by
  rw [PySem.W.Fast.te10295753902157049106, PySem.W.Fast.te14364793385576792824]; kernel_rfl
theorem lbtrue29 (w : World) (os : OsState) (k : Result → Sem Fin) (hd : Option Value) (g : Bool) (l : List Value) (cd : Code) (p₀ : Pos) (kept : List Value) (f2 : Frame) (stk : List Frame) : segGoT treeTable pw (w.withFollow "special-get-raises" true) 11 anns 1 20 (SB29 (w.withFollow "special-get-raises" true) os) (thG treeTable k hd g l cd p₀ kept f2 stk) = some (SB30 (w.withFollow "special-get-raises" true) os, (thG treeTable k hd g l cd p₀ kept f2 stk)) := by
  rw [PySem.W.Fast.te10295753902157049106, PySem.W.Fast.te14364793385576792824]; kernel_rfl
theorem lbtrue30 (w : World) (os : OsState) (k : Result → Sem Fin) (hd : Option Value) (g : Bool) (l : List Value) (cd : Code) (p₀ : Pos) (kept : List Value) (f2 : Frame) (stk : List Frame) : segGoT treeTable pw (w.withFollow "special-get-raises" true) 11 anns 1 20 (SB30 (w.withFollow "special-get-raises" true) os) (thG treeTable k hd g l cd p₀ kept f2 stk) = some (SB31 (w.withFollow "special-get-raises" true) os, (thG treeTable k hd g l cd p₀ kept f2 stk)) := by
  rw [PySem.W.Fast.te10295753902157049106, PySem.W.Fast.te14364793385576792824]; kernel_rfl
theorem lbtrue31 (w : World) (os : OsState) (k : Result → Sem Fin) (hd : Option Value) (g : Bool) (l : List Value) (cd : Code) (p₀ : Pos) (kept : List Value) (f2 : Frame) (stk : List Frame) : segGoT treeTable pw (w.withFollow "special-get-raises" true) 11 anns 1 20 (SB31 (w.withFollow "special-get-raises" true) os) (thG treeTable k hd g l cd p₀ kept f2 stk) = some (SB32 (w.withFollow "special-get-raises" true) os, (thG treeTable k hd g l cd p₀ kept f2 stk)) := by
  rw [PySem.W.Fast.te10295753902157049106, PySem.W.Fast.te14364793385576792824]; kernel_rfl
theorem lbtrue32 (w : World) (os : OsState) (k : Result → Sem Fin) (hd : Option Value) (g : Bool) (l : List Value) (cd : Code) (p₀ : Pos) (kept : List Value) (f2 : Frame) (stk : List Frame) : segGoT treeTable pw (w.withFollow "special-get-raises" true) 11 anns 1 20 (SB32 (w.withFollow "special-get-raises" true) os) (thG treeTable k hd g l cd p₀ kept f2 stk) = some (SB33 (w.withFollow "special-get-raises" true) os, (thG treeTable k hd g l cd p₀ kept f2 stk)) := by
  rw [PySem.W.Fast.te10295753902157049106, PySem.W.Fast.te14364793385576792824]; kernel_rfl
theorem lbtrue33 (w : World) (os : OsState) (k : Result → Sem Fin) (hd : Option Value) (g : Bool) (l : List Value) (cd : Code) (p₀ : Pos) (kept : List Value) (f2 : Frame) (stk : List Frame) : segGoT treeTable pw (w.withFollow "special-get-raises" true) 11 anns 1 20 (SB33 (w.withFollow "special-get-raises" true) os) (thG treeTable k hd g l cd p₀ kept f2 stk) = some (SB34 (w.withFollow "special-get-raises" true) os, (thG treeTable k hd g l cd p₀ kept f2 stk)) := by
  rw [PySem.W.Fast.te10295753902157049106, PySem.W.Fast.te14364793385576792824]; kernel_rfl
theorem lbtrue34 (w : World) (os : OsState) (k : Result → Sem Fin) (hd : Option Value) (g : Bool) (l : List Value) (cd : Code) (p₀ : Pos) (kept : List Value) (f2 : Frame) (stk : List Frame) : segGoT treeTable pw (w.withFollow "special-get-raises" true) 11 anns 1 20 (SB34 (w.withFollow "special-get-raises" true) os) (thG treeTable k hd g l cd p₀ kept f2 stk) = some (SB35 (w.withFollow "special-get-raises" true) os, (thG treeTable k hd g l cd p₀ kept f2 stk)) := by
  rw [PySem.W.Fast.te10295753902157049106, PySem.W.Fast.te14364793385576792824]; kernel_rfl
theorem lbtrue35 (w : World) (os : OsState) (k : Result → Sem Fin) (hd : Option Value) (g : Bool) (l : List Value) (cd : Code) (p₀ : Pos) (kept : List Value) (f2 : Frame) (stk : List Frame) : segGoT treeTable pw (w.withFollow "special-get-raises" true) 11 anns 1 20 (SB35 (w.withFollow "special-get-raises" true) os) (thG treeTable k hd g l cd p₀ kept f2 stk) = some (SB36 (w.withFollow "special-get-raises" true) os, (thG treeTable k hd g l cd p₀ kept f2 stk)) := by
  rw [PySem.W.Fast.te10295753902157049106, PySem.W.Fast.te14364793385576792824]; kernel_rfl
theorem lbtrue36 (w : World) (os : OsState) (k : Result → Sem Fin) (hd : Option Value) (g : Bool) (l : List Value) (cd : Code) (p₀ : Pos) (kept : List Value) (f2 : Frame) (stk : List Frame) : segGoT treeTable pw (w.withFollow "special-get-raises" true) 11 anns 1 20 (SB36 (w.withFollow "special-get-raises" true) os) (thG treeTable k hd g l cd p₀ kept f2 stk) = some (SB37 (w.withFollow "special-get-raises" true) os, (thG treeTable k hd g l cd p₀ kept f2 stk)) := by
  rw [PySem.W.Fast.te10295753902157049106, PySem.W.Fast.te14364793385576792824]; kernel_rfl
theorem lbtrue37 (w : World) (os : OsState) (k : Result → Sem Fin) (hd : Option Value) (g : Bool) (l : List Value) (cd : Code) (p₀ : Pos) (kept : List Value) (f2 : Frame) (stk : List Frame) : segGoT treeTable pw (w.withFollow "special-get-raises" true) 11 anns 1 20 (SB37 (w.withFollow "special-get-raises" true) os) (thG treeTable k hd g l cd p₀ kept f2 stk) = some (SB38 (w.withFollow "special-get-raises" true) os, (thG treeTable k hd g l cd p₀ kept f2 stk)) := by
  rw [PySem.W.Fast.te10295753902157049106, PySem.W.Fast.te14364793385576792824]; kernel_rfl
theorem lbtrue38 (w : World) (os : OsState) (k : Result → Sem Fin) (hd : Option Value) (g : Bool) (l : List Value) (cd : Code) (p₀ : Pos) (kept : List Value) (f2 : Frame) (stk : List Frame) : segGoT treeTable pw (w.withFollow "special-get-raises" true) 11 anns 1 20 (SB38 (w.withFollow "special-get-raises" true) os) (thG treeTable k hd g l cd p₀ kept f2 stk) = some (SB39 (w.withFollow "special-get-raises" true) os, (thG treeTable k hd g l cd p₀ kept f2 stk)) := by
  rw [PySem.W.Fast.te10295753902157049106, PySem.W.Fast.te14364793385576792824]; kernel_rfl
theorem lbtrue39 (w : World) (os : OsState) (k : Result → Sem Fin) (hd : Option Value) (g : Bool) (l : List Value) (cd : Code) (p₀ : Pos) (kept : List Value) (f2 : Frame) (stk : List Frame) : segGoT treeTable pw (w.withFollow "special-get-raises" true) 11 anns 1 20 (SB39 (w.withFollow "special-get-raises" true) os) (thG treeTable k hd g l cd p₀ kept f2 stk) = some (SB40 (w.withFollow "special-get-raises" true) os, (thG treeTable k hd g l cd p₀ kept f2 stk)) := by
  rw [PySem.W.Fast.te10295753902157049106, PySem.W.Fast.te14364793385576792824]; kernel_rfl
theorem lbtrue40 (w : World) (os : OsState) (k : Result → Sem Fin) (hd : Option Value) (g : Bool) (l : List Value) (cd : Code) (p₀ : Pos) (kept : List Value) (f2 : Frame) (stk : List Frame) : segGoT treeTable pw (w.withFollow "special-get-raises" true) 11 anns 1 20 (SB40 (w.withFollow "special-get-raises" true) os) (thG treeTable k hd g l cd p₀ kept f2 stk) = some (SB41 (w.withFollow "special-get-raises" true) os, (thG treeTable k hd g l cd p₀ kept f2 stk)) := by
  rw [PySem.W.Fast.te10295753902157049106, PySem.W.Fast.te14364793385576792824]; kernel_rfl
theorem lbtrue41 (w : World) (os : OsState) (k : Result → Sem Fin) (hd : Option Value) (g : Bool) (l : List Value) (cd : Code) (p₀ : Pos) (kept : List Value) (f2 : Frame) (stk : List Frame) : segGoT treeTable pw (w.withFollow "special-get-raises" true) 11 anns 1 20 (SB41 (w.withFollow "special-get-raises" true) os) (thG treeTable k hd g l cd p₀ kept f2 stk) = some (SB42 (w.withFollow "special-get-raises" true) os, (thG treeTable k hd g l cd p₀ kept f2 stk)) := by
  rw [PySem.W.Fast.te10295753902157049106, PySem.W.Fast.te14364793385576792824]; kernel_rfl
theorem lbtrue42 (w : World) (os : OsState) (k : Result → Sem Fin) (hd : Option Value) (g : Bool) (l : List Value) (cd : Code) (p₀ : Pos) (kept : List Value) (f2 : Frame) (stk : List Frame) : segGoT treeTable pw (w.withFollow "special-get-raises" true) 11 anns 1 20 (SB42 (w.withFollow "special-get-raises" true) os) (thG treeTable k hd g l cd p₀ kept f2 stk) = some (SB43 (w.withFollow "special-get-raises" true) os, (thG treeTable k hd g l cd p₀ kept f2 stk)) := by
  rw [PySem.W.Fast.te10295753902157049106, PySem.W.Fast.te14364793385576792824]; kernel_rfl
theorem lbtrue43 (w : World) (os : OsState) (k : Result → Sem Fin) (hd : Option Value) (g : Bool) (l : List Value) (cd : Code) (p₀ : Pos) (kept : List Value) (f2 : Frame) (stk : List Frame) : segGoT treeTable pw (w.withFollow "special-get-raises" true) 11 anns 1 20 (SB43 (w.withFollow "special-get-raises" true) os) (thG treeTable k hd g l cd p₀ kept f2 stk) = some (SB44 (w.withFollow "special-get-raises" true) os, (thG treeTable k hd g l cd p₀ kept f2 stk)) := by
  rw [PySem.W.Fast.te10295753902157049106, PySem.W.Fast.te14364793385576792824]; kernel_rfl
theorem lbtrue44 (w : World) (os : OsState) (k : Result → Sem Fin) (hd : Option Value) (g : Bool) (l : List Value) (cd : Code) (p₀ : Pos) (kept : List Value) (f2 : Frame) (stk : List Frame) : segGoT treeTable pw (w.withFollow "special-get-raises" true) 11 anns 1 20 (SB44 (w.withFollow "special-get-raises" true) os) (thG treeTable k hd g l cd p₀ kept f2 stk) = some (SB45 (w.withFollow "special-get-raises" true) os, (thG treeTable k hd g l cd p₀ kept f2 stk)) := by
  rw [PySem.W.Fast.te10295753902157049106, PySem.W.Fast.te14364793385576792824]; kernel_rfl
theorem lbtrue45 (w : World) (os : OsState) (k : Result → Sem Fin) (hd : Option Value) (g : Bool) (l : List Value) (cd : Code) (p₀ : Pos) (kept : List Value) (f2 : Frame) (stk : List Frame) : segGoT treeTable pw (w.withFollow "special-get-raises" true) 11 anns 1 20 (SB45 (w.withFollow "special-get-raises" true) os) (thG treeTable k hd g l cd p₀ kept f2 stk) = some (SB46 (w.withFollow "special-get-raises" true) os, (thG treeTable k hd g l cd p₀ kept f2 stk)) := by
  rw [PySem.W.Fast.te10295753902157049106, PySem.W.Fast.te14364793385576792824]; kernel_rfl
theorem lbtrue46 (w : World) (os : OsState) (k : Result → Sem Fin) (hd : Option Value) (g : Bool) (l : List Value) (cd : Code) (p₀ : Pos) (kept : List Value) (f2 : Frame) (stk : List Frame) : segGoT treeTable pw (w.withFollow "special-get-raises" true) 11 anns 1 20 (SB46 (w.withFollow "special-get-raises" true) os) (thG treeTable k hd g l cd p₀ kept f2 stk) = some (SB47 (w.withFollow "special-get-raises" true) os, (thG treeTable k hd g l cd p₀ kept f2 stk)) := by
  rw [PySem.W.Fast.te10295753902157049106, PySem.W.Fast.te14364793385576792824]; kernel_rfl
theorem lbtrue47 (w : World) (os : OsState) (k : Result → Sem Fin) (hd : Option Value) (g : Bool) (l : List Value) (cd : Code) (p₀ : Pos) (kept : List Value) (f2 : Frame) (stk : List Frame) : segGoT treeTable pw (w.withFollow "special-get-raises" true) 11 anns 1 20 (SB47 (w.withFollow "special-get-raises" true) os) (thG treeTable k hd g l cd p₀ kept f2 stk) = some (SB48 (w.withFollow "special-get-raises" true) os, (thG treeTable k hd g l cd p₀ kept f2 stk)) := by
  rw [PySem.W.Fast.te10295753902157049106, PySem.W.Fast.te14364793385576792824]; kernel_rfl
theorem lbtrue48 (w : World) (os : OsState) (k : Result → Sem Fin) (hd : Option Value) (g : Bool) (l : List Value) (cd : Code) (p₀ : Pos) (kept : List Value) (f2 : Frame) (stk : List Frame) : segGoT treeTable pw (w.withFollow "special-get-raises" true) 11 anns 1 20 (SB48 (w.withFollow "special-get-raises" true) os) (thG treeTable k hd g l cd p₀ kept f2 stk) = some (SB49 (w.withFollow "special-get-raises" true) os, (thG treeTable k hd g l cd p₀ kept f2 stk)) := by
  rw [PySem.W.Fast.te10295753902157049106, PySem.W.Fast.te14364793385576792824]; kernel_rfl
theorem lbtrue49 (w : World) (os : OsState) (k : Result → Sem Fin) (hd : Option Value) (g : Bool) (l : List Value) (cd : Code) (p₀ : Pos) (kept : List Value) (f2 : Frame) (stk : List Frame) : segGoT treeTable pw (w.withFollow "special-get-raises" true) 11 anns 1 20 (SB49 (w.withFollow "special-get-raises" true) os) (thG treeTable k hd g l cd p₀ kept f2 stk) = some (SB50 (w.withFollow "special-get-raises" true) os, (thG treeTable k hd g l cd p₀ kept f2 stk)) := by
  rw [PySem.W.Fast.te10295753902157049106, PySem.W.Fast.te14364793385576792824]; kernel_rfl
theorem lbtrue50 (w : World) (os : OsState) (k : Result → Sem Fin) (hd : Option Value) (g : Bool) (l : List Value) (cd : Code) (p₀ : Pos) (kept : List Value) (f2 : Frame) (stk : List Frame) : segGoT treeTable pw (w.withFollow "special-get-raises" true) 11 anns 1 20 (SB50 (w.withFollow "special-get-raises" true) os) (thG treeTable k hd g l cd p₀ kept f2 stk) = some (SB51 (w.withFollow "special-get-raises" true) os, (thG treeTable k hd g l cd p₀ kept f2 stk)) := by
  rw [PySem.W.Fast.te10295753902157049106, PySem.W.Fast.te14364793385576792824]; kernel_rfl
theorem lbtrue51 (w : World) (os : OsState) (k : Result → Sem Fin) (hd : Option Value) (g : Bool) (l : List Value) (cd : Code) (p₀ : Pos) (kept : List Value) (f2 : Frame) (stk : List Frame) : segGoT treeTable pw (w.withFollow "special-get-raises" true) 11 anns 1 20 (SB51 (w.withFollow "special-get-raises" true) os) (thG treeTable k hd g l cd p₀ kept f2 stk) = some (SB52 (w.withFollow "special-get-raises" true) os, (thG treeTable k hd g l cd p₀ kept f2 stk)) := by
  rw [PySem.W.Fast.te10295753902157049106, PySem.W.Fast.te14364793385576792824]; kernel_rfl
theorem lbtrue52 (w : World) (os : OsState) (k : Result → Sem Fin) (hd : Option Value) (g : Bool) (l : List Value) (cd : Code) (p₀ : Pos) (kept : List Value) (f2 : Frame) (stk : List Frame) : segGoT treeTable pw (w.withFollow "special-get-raises" true) 11 anns 1 20 (SB52 (w.withFollow "special-get-raises" true) os) (thG treeTable k hd g l cd p₀ kept f2 stk) = some (SB53 (w.withFollow "special-get-raises" true) os, (thG treeTable k hd g l cd p₀ kept f2 stk)) := by
  rw [PySem.W.Fast.te10295753902157049106, PySem.W.Fast.te14364793385576792824]; kernel_rfl
theorem lbtrue53 (w : World) (os : OsState) (k : Result → Sem Fin) (hd : Option Value) (g : Bool) (l : List Value) (cd : Code) (p₀ : Pos) (kept : List Value) (f2 : Frame) (stk : List Frame) : segGoT treeTable pw (w.withFollow "special-get-raises" true) 11 anns 1 20 (SB53 (w.withFollow "special-get-raises" true) os) (thG treeTable k hd g l cd p₀ kept f2 stk) = some (SB54 (w.withFollow "special-get-raises" true) os, (thG treeTable k hd g l cd p₀ kept f2 stk)) := by
  rw [PySem.W.Fast.te10295753902157049106, PySem.W.Fast.te14364793385576792824]; kernel_rfl
theorem lbtrue54 (w : World) (os : OsState) (k : Result → Sem Fin) (hd : Option Value) (g : Bool) (l : List Value) (cd : Code) (p₀ : Pos) (kept : List Value) (f2 : Frame) (stk : List Frame) : segGoT treeTable pw (w.withFollow "special-get-raises" true) 11 anns 1 20 (SB54 (w.withFollow "special-get-raises" true) os) (thG treeTable k hd g l cd p₀ kept f2 stk) = some (SB55 (w.withFollow "special-get-raises" true) os, (thG treeTable k hd g l cd p₀ kept f2 stk)) := by
  rw [PySem.W.Fast.te10295753902157049106, PySem.W.Fast.te14364793385576792824]; kernel_rfl
theorem lbtrue55 (w : World) (os : OsState) (k : Result → Sem Fin) (hd : Option Value) (g : Bool) (l : List Value) (cd : Code) (p₀ : Pos) (kept : List Value) (f2 : Frame) (stk : List Frame) : segGoT treeTable pw (w.withFollow "special-get-raises" true) 11 anns 1 20 (SB55 (w.withFollow "special-get-raises" true) os) (thG treeTable k hd g l cd p₀ kept f2 stk) = some (SB56 (w.withFollow "special-get-raises" true) os, (thG treeTable k hd g l cd p₀ kept f2 stk)) := by
  rw [PySem.W.Fast.te10295753902157049106, PySem.W.Fast.te14364793385576792824]; kernel_rfl
theorem lbtrue56 (w : World) (os : OsState) (k : Result → Sem Fin) (hd : Option Value) (g : Bool) (l : List Value) (cd : Code) (p₀ : Pos) (kept : List Value) (f2 : Frame) (stk : List Frame) : segGoT treeTable pw (w.withFollow "special-get-raises" true) 11 anns 1 20 (SB56 (w.withFollow "special-get-raises" true) os) (thG treeTable k hd g l cd p₀ kept f2 stk) = some (SB57 (w.withFollow "special-get-raises" true) os, (thG treeTable k hd g l cd p₀ kept f2 stk)) := by
  rw [PySem.W.Fast.te10295753902157049106, PySem.W.Fast.te14364793385576792824]; kernel_rfl
theorem lbtrue57 (w : World) (os : OsState) (k : Result → Sem Fin) (hd : Option Value) (g : Bool) (l : List Value) (cd : Code) (p₀ : Pos) (kept : List Value) (f2 : Frame) (stk : List Frame) : segGoT treeTable pw (w.withFollow "special-get-raises" true) 11 anns 1 20 (SB57 (w.withFollow "special-get-raises" true) os) (thG treeTable k hd g l cd p₀ kept f2 stk) = some (SB58 (w.withFollow "special-get-raises" true) os, (thG treeTable k hd g l cd p₀ kept f2 stk)) := by
  rw [PySem.W.Fast.te10295753902157049106, PySem.W.Fast.te14364793385576792824]; kernel_rfl
theorem lbtrue58 (w : World) (os : OsState) (k : Result → Sem Fin) (hd : Option Value) (g : Bool) (l : List Value) (cd : Code) (p₀ : Pos) (kept : List Value) (f2 : Frame) (stk : List Frame) : segGoT treeTable pw (w.withFollow "special-get-raises" true) 11 anns 1 20 (SB58 (w.withFollow "special-get-raises" true) os) (thG treeTable k hd g l cd p₀ kept f2 stk) = some (SB59 (w.withFollow "special-get-raises" true) os, (thG treeTable k hd g l cd p₀ kept f2 stk)) := by
  rw [PySem.W.Fast.te10295753902157049106, PySem.W.Fast.te14364793385576792824]; kernel_rfl
theorem lbtrue59 (w : World) (os : OsState) (k : Result → Sem Fin) (hd : Option Value) (g : Bool) (l : List Value) (cd : Code) (p₀ : Pos) (kept : List Value) (f2 : Frame) (stk : List Frame) : segGoT treeTable pw (w.withFollow "special-get-raises" true) 11 anns 1 20 (SB59 (w.withFollow "special-get-raises" true) os) (thG treeTable k hd g l cd p₀ kept f2 stk) = some (SB60 (w.withFollow "special-get-raises" true) os, (thG treeTable k hd g l cd p₀ kept f2 stk)) := by
  rw [PySem.W.Fast.te10295753902157049106, PySem.W.Fast.te14364793385576792824]; kernel_rfl
theorem lbtrue60 (w : World) (os : OsState) (k : Result → Sem Fin) (hd : Option Value) (g : Bool) (l : List Value) (cd : Code) (p₀ : Pos) (kept : List Value) (f2 : Frame) (stk : List Frame) : segGoT treeTable pw (w.withFollow "special-get-raises" true) 11 anns 1 20 (SB60 (w.withFollow "special-get-raises" true) os) (thG treeTable k hd g l cd p₀ kept f2 stk) = some (SB61 (w.withFollow "special-get-raises" true) os, (thG treeTable k hd g l cd p₀ kept f2 stk)) := by
  rw [PySem.W.Fast.te10295753902157049106, PySem.W.Fast.te14364793385576792824]; kernel_rfl
theorem lbtrue61 (w : World) (os : OsState) (k : Result → Sem Fin) (hd : Option Value) (g : Bool) (l : List Value) (cd : Code) (p₀ : Pos) (kept : List Value) (f2 : Frame) (stk : List Frame) : segGoT treeTable pw (w.withFollow "special-get-raises" true) 11 anns 1 20 (SB61 (w.withFollow "special-get-raises" true) os) (thG treeTable k hd g l cd p₀ kept f2 stk) = some (SB62 (w.withFollow "special-get-raises" true) os, (thG treeTable k hd g l cd p₀ kept f2 stk)) := by
  rw [PySem.W.Fast.te10295753902157049106, PySem.W.Fast.te14364793385576792824]; kernel_rfl
theorem lbtrue62 (w : World) (os : OsState) (k : Result → Sem Fin) (hd : Option Value) (g : Bool) (l : List Value) (cd : Code) (p₀ : Pos) (kept : List Value) (f2 : Frame) (stk : List Frame) : segGoT treeTable pw (w.withFollow "special-get-raises" true) 11 anns 1 20 (SB62 (w.withFollow "special-get-raises" true) os) (thG treeTable k hd g l cd p₀ kept f2 stk) = some (SB63 (w.withFollow "special-get-raises" true) os, (thG treeTable k hd g l cd p₀ kept f2 stk)) := by
  rw [PySem.W.Fast.te10295753902157049106, PySem.W.Fast.te14364793385576792824]; kernel_rfl
theorem lbtrue63 (w : World) (os : OsState) (k : Result → Sem Fin) (hd : Option Value) (g : Bool) (l : List Value) (cd : Code) (p₀ : Pos) (kept : List Value) (f2 : Frame) (stk : List Frame) : segGoT treeTable pw (w.withFollow "special-get-raises" true) 11 anns 1 20 (SB63 (w.withFollow "special-get-raises" true) os) (thG treeTable k hd g l cd p₀ kept f2 stk) = some (SB64 (w.withFollow "special-get-raises" true) os, (thG treeTable k hd g l cd p₀ kept f2 stk)) := by
  rw [PySem.W.Fast.te10295753902157049106, PySem.W.Fast.te14364793385576792824]; kernel_rfl
theorem lbtrue64 (w : World) (os : OsState) (k : Result → Sem Fin) (hd : Option Value) (g : Bool) (l : List Value) (cd : Code) (p₀ : Pos) (kept : List Value) (f2 : Frame) (stk : List Frame) : segGoT treeTable pw (w.withFollow "special-get-raises" true) 11 anns 1 20 (SB64 (w.withFollow "special-get-raises" true) os) (thG treeTable k hd g l cd p₀ kept f2 stk) = some (SB65 (w.withFollow "special-get-raises" true) os, (thG treeTable k hd g l cd p₀ kept f2 stk)) := by
  rw [PySem.W.Fast.te10295753902157049106, PySem.W.Fast.te14364793385576792824]; kernel_rfl
theorem lbtrue65 (w : World) (os : OsState) (k : Result → Sem Fin) (hd : Option Value) (g : Bool) (l : List Value) (cd : Code) (p₀ : Pos) (kept : List Value) (f2 : Frame) (stk : List Frame) : segGoT treeTable pw (w.withFollow "special-get-raises" true) 11 anns 1 20 (SB65 (w.withFollow "special-get-raises" true) os) (thG treeTable k hd g l cd p₀ kept f2 stk) = some (SB66 (w.withFollow "special-get-raises" true) os, (thG treeTable k hd g l cd p₀ kept f2 stk)) := by
  rw [PySem.W.Fast.te10295753902157049106, PySem.W.Fast.te14364793385576792824]; kernel_rfl
theorem lbtrue66 (w : World) (os : OsState) (k : Result → Sem Fin) (hd : Option Value) (g : Bool) (l : List Value) (cd : Code) (p₀ : Pos) (kept : List Value) (f2 : Frame) (stk : List Frame) : segGoT treeTable pw (w.withFollow "special-get-raises" true) 11 anns 1 20 (SB66 (w.withFollow "special-get-raises" true) os) (thG treeTable k hd g l cd p₀ kept f2 stk) = some (SB67 (w.withFollow "special-get-raises" true) os, (thG treeTable k hd g l cd p₀ kept f2 stk)) := by
  rw [PySem.W.Fast.te10295753902157049106, PySem.W.Fast.te14364793385576792824]; kernel_rfl
theorem lbtrue67 (w : World) (os : OsState) (k : Result → Sem Fin) (hd : Option Value) (g : Bool) (l : List Value) (cd : Code) (p₀ : Pos) (kept : List Value) (f2 : Frame) (stk : List Frame) : segGoT treeTable pw (w.withFollow "special-get-raises" true) 11 anns 1 20 (SB67 (w.withFollow "special-get-raises" true) os) (thG treeTable k hd g l cd p₀ kept f2 stk) = some (SB68 (w.withFollow "special-get-raises" true) os, (thG treeTable k hd g l cd p₀ kept f2 stk)) := by
  rw [PySem.W.Fast.te10295753902157049106, PySem.W.Fast.te14364793385576792824]; kernel_rfl
theorem lbtrue68 (w : World) (os : OsState) (k : Result → Sem Fin) (hd : Option Value) (g : Bool) (l : List Value) (cd : Code) (p₀ : Pos) (kept : List Value) (f2 : Frame) (stk : List Frame) : segGoT treeTable pw (w.withFollow "special-get-raises" true) 11 anns 1 20 (SB68 (w.withFollow "special-get-raises" true) os) (thG treeTable k hd g l cd p₀ kept f2 stk) = some (SB69 (w.withFollow "special-get-raises" true) os, (thG treeTable k hd g l cd p₀ kept f2 stk)) := by
  rw [PySem.W.Fast.te10295753902157049106, PySem.W.Fast.te14364793385576792824]; kernel_rfl
theorem lbtrue69 (w : World) (os : OsState) (k : Result → Sem Fin) (hd : Option Value) (g : Bool) (l : List Value) (cd : Code) (p₀ : Pos) (kept : List Value) (f2 : Frame) (stk : List Frame) : segGoT treeTable pw (w.withFollow "special-get-raises" true) 11 anns 1 20 (SB69 (w.withFollow "special-get-raises" true) os) (thG treeTable k hd g l cd p₀ kept f2 stk) = some (SB70 (w.withFollow "special-get-raises" true) os, (thG treeTable k hd g l cd p₀ kept f2 stk)) := by
  rw [PySem.W.Fast.te10295753902157049106, PySem.W.Fast.te14364793385576792824]; kernel_rfl
theorem lbtrue70 (w : World) (os : OsState) (k : Result → Sem Fin) (hd : Option Value) (g : Bool) (l : List Value) (cd : Code) (p₀ : Pos) (kept : List Value) (f2 : Frame) (stk : List Frame) : segGoT treeTable pw (w.withFollow "special-get-raises" true) 11 anns 1 20 (SB70 (w.withFollow "special-get-raises" true) os) (thG treeTable k hd g l cd p₀ kept f2 stk) = some (SB71 (w.withFollow "special-get-raises" true) os, (thG treeTable k hd g l cd p₀ kept f2 stk)) := by
  rw [PySem.W.Fast.te10295753902157049106, PySem.W.Fast.te14364793385576792824]; kernel_rfl
theorem lbtrue71 (w : World) (os : OsState) (k : Result → Sem Fin) (hd : Option Value) (g : Bool) (l : List Value) (cd : Code) (p₀ : Pos) (kept : List Value) (f2 : Frame) (stk : List Frame) : segGoT treeTable pw (w.withFollow "special-get-raises" true) 11 anns 1 20 (SB71 (w.withFollow "special-get-raises" true) os) (thG treeTable k hd g l cd p₀ kept f2 stk) = some (SB72 (w.withFollow "special-get-raises" true) os, (thG treeTable k hd g l cd p₀ kept f2 stk)) := by
  rw [PySem.W.Fast.te10295753902157049106, PySem.W.Fast.te14364793385576792824]; kernel_rfl
theorem lbtrue72 (w : World) (os : OsState) (k : Result → Sem Fin) (hd : Option Value) (g : Bool) (l : List Value) (cd : Code) (p₀ : Pos) (kept : List Value) (f2 : Frame) (stk : List Frame) : segGoT treeTable pw (w.withFollow "special-get-raises" true) 11 anns 1 20 (SB72 (w.withFollow "special-get-raises" true) os) (thG treeTable k hd g l cd p₀ kept f2 stk) = some (SB73 (w.withFollow "special-get-raises" true) os, (thG treeTable k hd g l cd p₀ kept f2 stk)) := by
  rw [PySem.W.Fast.te10295753902157049106, PySem.W.Fast.te14364793385576792824]; kernel_rfl
theorem lbtrue73 (w : World) (os : OsState) (k : Result → Sem Fin) (hd : Option Value) (g : Bool) (l : List Value) (cd : Code) (p₀ : Pos) (kept : List Value) (f2 : Frame) (stk : List Frame) : segGoT treeTable pw (w.withFollow "special-get-raises" true) 11 anns 1 20 (SB73 (w.withFollow "special-get-raises" true) os) (thG treeTable k hd g l cd p₀ kept f2 stk) = some (SB74 (w.withFollow "special-get-raises" true) os, (thG treeTable k hd g l cd p₀ kept f2 stk)) := by
  rw [PySem.W.Fast.te10295753902157049106, PySem.W.Fast.te14364793385576792824]; kernel_rfl
theorem lbtrue74 (w : World) (os : OsState) (k : Result → Sem Fin) (hd : Option Value) (g : Bool) (l : List Value) (cd : Code) (p₀ : Pos) (kept : List Value) (f2 : Frame) (stk : List Frame) : segGoT treeTable pw (w.withFollow "special-get-raises" true) 11 anns 1 20 (SB74 (w.withFollow "special-get-raises" true) os) (thG treeTable k hd g l cd p₀ kept f2 stk) = some (SB75 (w.withFollow "special-get-raises" true) os, (thG treeTable k hd g l cd p₀ kept f2 stk)) := by
  rw [PySem.W.Fast.te10295753902157049106, PySem.W.Fast.te14364793385576792824]; kernel_rfl
theorem lbtrue75 (w : World) (os : OsState) (k : Result → Sem Fin) (hd : Option Value) (g : Bool) (l : List Value) (cd : Code) (p₀ : Pos) (kept : List Value) (f2 : Frame) (stk : List Frame) : segGoT treeTable pw (w.withFollow "special-get-raises" true) 11 anns 1 20 (SB75 (w.withFollow "special-get-raises" true) os) (thG treeTable k hd g l cd p₀ kept f2 stk) = some (SB76 (w.withFollow "special-get-raises" true) os, (thG treeTable k hd g l cd p₀ kept f2 stk)) := by
  rw [PySem.W.Fast.te10295753902157049106, PySem.W.Fast.te14364793385576792824]; kernel_rfl
theorem lbtrue76 (w : World) (os : OsState) (k : Result → Sem Fin) (hd : Option Value) (g : Bool) (l : List Value) (cd : Code) (p₀ : Pos) (kept : List Value) (f2 : Frame) (stk : List Frame) : segGoT treeTable pw (w.withFollow "special-get-raises" true) 11 anns 1 22 (SB76 (w.withFollow "special-get-raises" true) os) (thG treeTable k hd g l cd p₀ kept f2 stk) = some (SB77 (w.withFollow "special-get-raises" true) os, (thG treeTable k hd g l cd p₀ kept f2 stk)) := by
  rw [PySem.W.Fast.te10295753902157049106, PySem.W.Fast.te14364793385576792824]; kernel_rfl
theorem lbtrue77 (w : World) (os : OsState) (k : Result → Sem Fin) (hd : Option Value) (g : Bool) (l : List Value) (cd : Code) (p₀ : Pos) (kept : List Value) (f2 : Frame) (stk : List Frame) : segGoT treeTable pw (w.withFollow "special-get-raises" true) 11 anns 1 20 (SB77 (w.withFollow "special-get-raises" true) os) (thG treeTable k hd g l cd p₀ kept f2 stk) = some (SB78 (w.withFollow "special-get-raises" true) os, (thG treeTable k hd g l cd p₀ kept f2 stk)) := by
  rw [PySem.W.Fast.te10295753902157049106, PySem.W.Fast.te14364793385576792824]; kernel_rfl
theorem lbtrue78 (w : World) (os : OsState) (k : Result → Sem Fin) (hd : Option Value) (g : Bool) (l : List Value) (cd : Code) (p₀ : Pos) (kept : List Value) (f2 : Frame) (stk : List Frame) : segGoT treeTable pw (w.withFollow "special-get-raises" true) 11 anns 1 20 (SB78 (w.withFollow "special-get-raises" true) os) (thG treeTable k hd g l cd p₀ kept f2 stk) = some (SB79 (w.withFollow "special-get-raises" true) os, (thG treeTable k hd g l cd p₀ kept f2 stk)) := by
  rw [PySem.W.Fast.te10295753902157049106, PySem.W.Fast.te14364793385576792824]; kernel_rfl
theorem lbtrue79 (w : World) (os : OsState) (k : Result → Sem Fin) (hd : Option Value) (g : Bool) (l : List Value) (cd : Code) (p₀ : Pos) (kept : List Value) (f2 : Frame) (stk : List Frame) : segGoT treeTable pw (w.withFollow "special-get-raises" true) 11 anns 1 20 (SB79 (w.withFollow "special-get-raises" true) os) (thG treeTable k hd g l cd p₀ kept f2 stk) = some (SB80 (w.withFollow "special-get-raises" true) os, (thG treeTable k hd g l cd p₀ kept f2 stk)) := by
  rw [PySem.W.Fast.te10295753902157049106, PySem.W.Fast.te14364793385576792824]; kernel_rfl
theorem lbtrue80 (w : World) (os : OsState) (k : Result → Sem Fin) (hd : Option Value) (g : Bool) (l : List Value) (cd : Code) (p₀ : Pos) (kept : List Value) (f2 : Frame) (stk : List Frame) : segGoT treeTable pw (w.withFollow "special-get-raises" true) 11 anns 1 20 (SB80 (w.withFollow "special-get-raises" true) os) (thG treeTable k hd g l cd p₀ kept f2 stk) = some (SB81 (w.withFollow "special-get-raises" true) os, (thG treeTable k hd g l cd p₀ kept f2 stk)) := by
  rw [PySem.W.Fast.te10295753902157049106, PySem.W.Fast.te14364793385576792824]; kernel_rfl
theorem lbtrue81 (w : World) (os : OsState) (k : Result → Sem Fin) (hd : Option Value) (g : Bool) (l : List Value) (cd : Code) (p₀ : Pos) (kept : List Value) (f2 : Frame) (stk : List Frame) : segGoT treeTable pw (w.withFollow "special-get-raises" true) 11 anns 1 20 (SB81 (w.withFollow "special-get-raises" true) os) (thG treeTable k hd g l cd p₀ kept f2 stk) = some (SB82 (w.withFollow "special-get-raises" true) os, (thG treeTable k hd g l cd p₀ kept f2 stk)) := by
  rw [PySem.W.Fast.te10295753902157049106, PySem.W.Fast.te14364793385576792824]; kernel_rfl
theorem lbtrue82 (w : World) (os : OsState) (k : Result → Sem Fin) (hd : Option Value) (g : Bool) (l : List Value) (cd : Code) (p₀ : Pos) (kept : List Value) (f2 : Frame) (stk : List Frame) : segGoT treeTable pw (w.withFollow "special-get-raises" true) 11 anns 1 20 (SB82 (w.withFollow "special-get-raises" true) os) (thG treeTable k hd g l cd p₀ kept f2 stk) = some (SB83 (w.withFollow "special-get-raises" true) os, (thG treeTable k hd g l cd p₀ kept f2 stk)) := by
  rw [PySem.W.Fast.te10295753902157049106, PySem.W.Fast.te14364793385576792824]; kernel_rfl
theorem lbtrue83 (w : World) (os : OsState) (k : Result → Sem Fin) (hd : Option Value) (g : Bool) (l : List Value) (cd : Code) (p₀ : Pos) (kept : List Value) (f2 : Frame) (stk : List Frame) : segGoT treeTable pw (w.withFollow "special-get-raises" true) 11 anns 1 20 (SB83 (w.withFollow "special-get-raises" true) os) (thG treeTable k hd g l cd p₀ kept f2 stk) = some (SB84 (w.withFollow "special-get-raises" true) os, (thG treeTable k hd g l cd p₀ kept f2 stk)) := by
  rw [PySem.W.Fast.te10295753902157049106, PySem.W.Fast.te14364793385576792824]; kernel_rfl
theorem lbtrue84 (w : World) (os : OsState) (k : Result → Sem Fin) (hd : Option Value) (g : Bool) (l : List Value) (cd : Code) (p₀ : Pos) (kept : List Value) (f2 : Frame) (stk : List Frame) : segGoT treeTable pw (w.withFollow "special-get-raises" true) 11 anns 1 20 (SB84 (w.withFollow "special-get-raises" true) os) (thG treeTable k hd g l cd p₀ kept f2 stk) = some (SB85 (w.withFollow "special-get-raises" true) os, (thG treeTable k hd g l cd p₀ kept f2 stk)) := by
  rw [PySem.W.Fast.te10295753902157049106, PySem.W.Fast.te14364793385576792824]; kernel_rfl
theorem lbtrue85 (w : World) (os : OsState) (k : Result → Sem Fin) (hd : Option Value) (g : Bool) (l : List Value) (cd : Code) (p₀ : Pos) (kept : List Value) (f2 : Frame) (stk : List Frame) : segGoT treeTable pw (w.withFollow "special-get-raises" true) 11 anns 1 20 (SB85 (w.withFollow "special-get-raises" true) os) (thG treeTable k hd g l cd p₀ kept f2 stk) = some (SB86 (w.withFollow "special-get-raises" true) os, (thG treeTable k hd g l cd p₀ kept f2 stk)) := by
  rw [PySem.W.Fast.te10295753902157049106, PySem.W.Fast.te14364793385576792824]; kernel_rfl
theorem lbtrue86 (w : World) (os : OsState) (k : Result → Sem Fin) (hd : Option Value) (g : Bool) (l : List Value) (cd : Code) (p₀ : Pos) (kept : List Value) (f2 : Frame) (stk : List Frame) : segGoT treeTable pw (w.withFollow "special-get-raises" true) 11 anns 1 20 (SB86 (w.withFollow "special-get-raises" true) os) (thG treeTable k hd g l cd p₀ kept f2 stk) = some (SB87 (w.withFollow "special-get-raises" true) os, (thG treeTable k hd g l cd p₀ kept f2 stk)) := by
  rw [PySem.W.Fast.te10295753902157049106, PySem.W.Fast.te14364793385576792824]; kernel_rfl
theorem lbtrue87 (w : World) (os : OsState) (k : Result → Sem Fin) (hd : Option Value) (g : Bool) (l : List Value) (cd : Code) (p₀ : Pos) (kept : List Value) (f2 : Frame) (stk : List Frame) : segGoT treeTable pw (w.withFollow "special-get-raises" true) 11 anns 1 20 (SB87 (w.withFollow "special-get-raises" true) os) (thG treeTable k hd g l cd p₀ kept f2 stk) = some (SB88 (w.withFollow "special-get-raises" true) os, (thG treeTable k hd g l cd p₀ kept f2 stk)) := by
  rw [PySem.W.Fast.te10295753902157049106, PySem.W.Fast.te14364793385576792824]; kernel_rfl
theorem lbtrue88 (w : World) (os : OsState) (k : Result → Sem Fin) (hd : Option Value) (g : Bool) (l : List Value) (cd : Code) (p₀ : Pos) (kept : List Value) (f2 : Frame) (stk : List Frame) : segGoT treeTable pw (w.withFollow "special-get-raises" true) 11 anns 1 20 (SB88 (w.withFollow "special-get-raises" true) os) (thG treeTable k hd g l cd p₀ kept f2 stk) = some (SB89 (w.withFollow "special-get-raises" true) os, (thG treeTable k hd g l cd p₀ kept f2 stk)) := by
  rw [PySem.W.Fast.te10295753902157049106, PySem.W.Fast.te14364793385576792824]; kernel_rfl
theorem lbtrue89 (w : World) (os : OsState) (k : Result → Sem Fin) (hd : Option Value) (g : Bool) (l : List Value) (cd : Code) (p₀ : Pos) (kept : List Value) (f2 : Frame) (stk : List Frame) : segGoT treeTable pw (w.withFollow "special-get-raises" true) 11 anns 1 20 (SB89 (w.withFollow "special-get-raises" true) os) (thG treeTable k hd g l cd p₀ kept f2 stk) = some (SB90 (w.withFollow "special-get-raises" true) os, (thG treeTable k hd g l cd p₀ kept f2 stk)) := by
  rw [PySem.W.Fast.te10295753902157049106, PySem.W.Fast.te14364793385576792824]; kernel_rfl
theorem lbtrue90 (w : World) (os : OsState) (k : Result → Sem Fin) (hd : Option Value) (g : Bool) (l : List Value) (cd : Code) (p₀ : Pos) (kept : List Value) (f2 : Frame) (stk : List Frame) : segGoT treeTable pw (w.withFollow "special-get-raises" true) 11 anns 1 20 (SB90 (w.withFollow "special-get-raises" true) os) (thG treeTable k hd g l cd p₀ kept f2 stk) = some (SB91 (w.withFollow "special-get-raises" true) os, (thG treeTable k hd g l cd p₀ kept f2 stk)) := by
  rw [PySem.W.Fast.te10295753902157049106, PySem.W.Fast.te14364793385576792824]; kernel_rfl
theorem lbtrue91 (w : World) (os : OsState) (k : Result → Sem Fin) (hd : Option Value) (g : Bool) (l : List Value) (cd : Code) (p₀ : Pos) (kept : List Value) (f2 : Frame) (stk : List Frame) : segGoT treeTable pw (w.withFollow "special-get-raises" true) 11 anns 1 20 (SB91 (w.withFollow "special-get-raises" true) os) (thG treeTable k hd g l cd p₀ kept f2 stk) = some (SB92 (w.withFollow "special-get-raises" true) os, (thG treeTable k hd g l cd p₀ kept f2 stk)) := by
  rw [PySem.W.Fast.te10295753902157049106, PySem.W.Fast.te14364793385576792824]; kernel_rfl
theorem lbtrue92 (w : World) (os : OsState) (k : Result → Sem Fin) (hd : Option Value) (g : Bool) (l : List Value) (cd : Code) (p₀ : Pos) (kept : List Value) (f2 : Frame) (stk : List Frame) : segGoT treeTable pw (w.withFollow "special-get-raises" true) 11 anns 1 20 (SB92 (w.withFollow "special-get-raises" true) os) (thG treeTable k hd g l cd p₀ kept f2 stk) = some (SB93 (w.withFollow "special-get-raises" true) os, (thG treeTable k hd g l cd p₀ kept f2 stk)) := by
  rw [PySem.W.Fast.te10295753902157049106, PySem.W.Fast.te14364793385576792824]; kernel_rfl
theorem lbtrue93 (w : World) (os : OsState) (k : Result → Sem Fin) (hd : Option Value) (g : Bool) (l : List Value) (cd : Code) (p₀ : Pos) (kept : List Value) (f2 : Frame) (stk : List Frame) : segGoT treeTable pw (w.withFollow "special-get-raises" true) 11 anns 1 20 (SB93 (w.withFollow "special-get-raises" true) os) (thG treeTable k hd g l cd p₀ kept f2 stk) = some (SB94 (w.withFollow "special-get-raises" true) os, (thG treeTable k hd g l cd p₀ kept f2 stk)) := by
  rw [PySem.W.Fast.te10295753902157049106, PySem.W.Fast.te14364793385576792824]; kernel_rfl
theorem lbtrue94 (w : World) (os : OsState) (k : Result → Sem Fin) (hd : Option Value) (g : Bool) (l : List Value) (cd : Code) (p₀ : Pos) (kept : List Value) (f2 : Frame) (stk : List Frame) : segGoT treeTable pw (w.withFollow "special-get-raises" true) 11 anns 1 20 (SB94 (w.withFollow "special-get-raises" true) os) (thG treeTable k hd g l cd p₀ kept f2 stk) = some (SB95 (w.withFollow "special-get-raises" true) os, (thG treeTable k hd g l cd p₀ kept f2 stk)) := by
  rw [PySem.W.Fast.te10295753902157049106, PySem.W.Fast.te14364793385576792824]; kernel_rfl
theorem lbtrue95 (w : World) (os : OsState) (k : Result → Sem Fin) (hd : Option Value) (g : Bool) (l : List Value) (cd : Code) (p₀ : Pos) (kept : List Value) (f2 : Frame) (stk : List Frame) : segGoT treeTable pw (w.withFollow "special-get-raises" true) 11 anns 1 20 (SB95 (w.withFollow "special-get-raises" true) os) (thG treeTable k hd g l cd p₀ kept f2 stk) = some (SB96 (w.withFollow "special-get-raises" true) os, (thG treeTable k hd g l cd p₀ kept f2 stk)) := by
  rw [PySem.W.Fast.te10295753902157049106, PySem.W.Fast.te14364793385576792824]; kernel_rfl
theorem lbtrue96 (w : World) (os : OsState) (k : Result → Sem Fin) (hd : Option Value) (g : Bool) (l : List Value) (cd : Code) (p₀ : Pos) (kept : List Value) (f2 : Frame) (stk : List Frame) : segGoT treeTable pw (w.withFollow "special-get-raises" true) 11 anns 1 20 (SB96 (w.withFollow "special-get-raises" true) os) (thG treeTable k hd g l cd p₀ kept f2 stk) = some (SB97 (w.withFollow "special-get-raises" true) os, (thG treeTable k hd g l cd p₀ kept f2 stk)) := by
  rw [PySem.W.Fast.te10295753902157049106, PySem.W.Fast.te14364793385576792824]; kernel_rfl
theorem looptrue (w : World) (os : OsState) (k : Result → Sem Fin) (hd : Option Value) (g : Bool) (l : List Value) (cd : Code) (p₀ : Pos) (kept : List Value) (f2 : Frame) (stk : List Frame) : segGoT treeTable pw (w.withFollow "special-get-raises" true) 11 anns 1 nB (SB0 (w.withFollow "special-get-raises" true) os) (thG treeTable k hd g l cd p₀ kept f2 stk) = some (SB97 (w.withFollow "special-get-raises" true) os, (thG treeTable k hd g l cd p₀ kept f2 stk)) :=
  (goT_add (lbtrue0 w os k hd g l cd p₀ kept f2 stk) (goT_add (lbtrue5 w os k hd g l cd p₀ kept f2 stk) (goT_add (lbtrue6 w os k hd g l cd p₀ kept f2 stk) (goT_add (lbtrue7 w os k hd g l cd p₀ kept f2 stk) (goT_add (lbtrue8 w os k hd g l cd p₀ kept f2 stk) (goT_add (lbtrue9 w os k hd g l cd p₀ kept f2 stk) (goT_add (lbtrue10 w os k hd g l cd p₀ kept f2 stk) (goT_add (lbtrue11 w os k hd g l cd p₀ kept f2 stk) (goT_add (lbtrue12 w os k hd g l cd p₀ kept f2 stk) (goT_add (lbtrue13 w os k hd g l cd p₀ kept f2 stk) (goT_add (lbtrue14 w os k hd g l cd p₀ kept f2 stk) (goT_add (lbtrue15 w os k hd g l cd p₀ kept f2 stk) (goT_add (lbtrue16 w os k hd g l cd p₀ kept f2 stk) (goT_add (lbtrue17 w os k hd g l cd p₀ kept f2 stk) (goT_add (lbtrue18 w os k hd g l cd p₀ kept f2 stk) (goT_add (lbtrue19 w os k hd g l cd p₀ kept f2 stk) (goT_add (lbtrue20 w os k hd g l cd p₀ kept f2 stk) (goT_add (lbtrue21 w os k hd g l cd p₀ kept f2 stk) (goT_add (lbtrue22 w os k hd g l cd p₀ kept f2 stk) (goT_add (lbtrue23 w os k hd g l cd p₀ kept f2 stk) (goT_add (lbtrue24 w os k hd g l cd p₀ kept f2 stk) (goT_add (lbtrue25 w os k hd g l cd p₀ kept f2 stk) (goT_add (lbtrue26 w os k hd g l cd p₀ kept f2 stk) (goT_add (lbtrue27 w os k hd g l cd p₀ kept f2 stk) (goT_add (lbtrue28 w os k hd g l cd p₀ kept f2 stk) (goT_add (lbtrue29 w os k hd g l cd p₀ kept f2 stk) (goT_add (lbtrue30 w os k hd g l cd p₀ kept f2 stk) (goT_add (lbtrue31 w os k hd g l cd p₀ kept f2 stk) (goT_add (lbtrue32 w os k hd g l cd p₀ kept f2 stk) (goT_add (lbtrue33 w os k hd g l cd p₀ kept f2 stk) (goT_add (lbtrue34 w os k hd g l cd p₀ kept f2 stk) (goT_add (lbtrue35 w os k hd g l cd p₀ kept f2 stk) (goT_add (lbtrue36 w os k hd g l cd p₀ kept f2 stk) (goT_add (lbtrue37 w os k hd g l cd p₀ kept f2 stk) (goT_add (lbtrue38 w os k hd g l cd p₀ kept f2 stk) (goT_add (lbtrue39 w os k hd g l cd p₀ kept f2 stk) (goT_add (lbtrue40 w os k hd g l cd p₀ kept f2 stk) (goT_add (lbtrue41 w os k hd g l cd p₀ kept f2 stk) (goT_add (lbtrue42 w os k hd g l cd p₀ kept f2 stk) (goT_add (lbtrue43 w os k hd g l cd p₀ kept f2 stk) (goT_add (lbtrue44 w os k hd g l cd p₀ kept f2 stk) (goT_add (lbtrue45 w os k hd g l cd p₀ kept f2 stk) (goT_add (lbtrue46 w os k hd g l cd p₀ kept f2 stk) (goT_add (lbtrue47 w os k hd g l cd p₀ kept f2 stk) (goT_add (lbtrue48 w os k hd g l cd p₀ kept f2 stk) (goT_add (lbtrue49 w os k hd g l cd p₀ kept f2 stk) (goT_add (lbtrue50 w os k hd g l cd p₀ kept f2 stk) (goT_add (lbtrue51 w os k hd g l cd p₀ kept f2 stk) (goT_add (lbtrue52 w os k hd g l cd p₀ kept f2 stk) (goT_add (lbtrue53 w os k hd g l cd p₀ kept f2 stk) (goT_add (lbtrue54 w os k hd g l cd p₀ kept f2 stk) (goT_add (lbtrue55 w os k hd g l cd p₀ kept f2 stk) (goT_add (lbtrue56 w os k hd g l cd p₀ kept f2 stk) (goT_add (lbtrue57 w os k hd g l cd p₀ kept f2 stk) (goT_add (lbtrue58 w os k hd g l cd p₀ kept f2 stk) (goT_add (lbtrue59 w os k hd g l cd p₀ kept f2 stk) (goT_add (lbtrue60 w os k hd g l cd p₀ kept f2 stk) (goT_add (lbtrue61 w os k hd g l cd p₀ kept f2 stk) (goT_add (lbtrue62 w os k hd g l cd p₀ kept f2 stk) (goT_add (lbtrue63 w os k hd g l cd p₀ kept f2 stk) (goT_add (lbtrue64 w os k hd g l cd p₀ kept f2 stk) (goT_add (lbtrue65 w os k hd g l cd p₀ kept f2 stk) (goT_add (lbtrue66 w os k hd g l cd p₀ kept f2 stk) (goT_add (lbtrue67 w os k hd g l cd p₀ kept f2 stk) (goT_add (lbtrue68 w os k hd g l cd p₀ kept f2 stk) (goT_add (lbtrue69 w os k hd g l cd p₀ kept f2 stk) (goT_add (lbtrue70 w os k hd g l cd p₀ kept f2 stk) (goT_add (lbtrue71 w os k hd g l cd p₀ kept f2 stk) (goT_add (lbtrue72 w os k hd g l cd p₀ kept f2 stk) (goT_add (lbtrue73 w os k hd g l cd p₀ kept f2 stk) (goT_add (lbtrue74 w os k hd g l cd p₀ kept f2 stk) (goT_add (lbtrue75 w os k hd g l cd p₀ kept f2 stk) (goT_add (lbtrue76 w os k hd g l cd p₀ kept f2 stk) (goT_add (lbtrue77 w os k hd g l cd p₀ kept f2 stk) (goT_add (lbtrue78 w os k hd g l cd p₀ kept f2 stk) (goT_add (lbtrue79 w os k hd g l cd p₀ kept f2 stk) (goT_add (lbtrue80 w os k hd g l cd p₀ kept f2 stk) (goT_add (lbtrue81 w os k hd g l cd p₀ kept f2 stk) (goT_add (lbtrue82 w os k hd g l cd p₀ kept f2 stk) (goT_add (lbtrue83 w os k hd g l cd p₀ kept f2 stk) (goT_add (lbtrue84 w os k hd g l cd p₀ kept f2 stk) (goT_add (lbtrue85 w os k hd g l cd p₀ kept f2 stk) (goT_add (lbtrue86 w os k hd g l cd p₀ kept f2 stk) (goT_add (lbtrue87 w os k hd g l cd p₀ kept f2 stk) (goT_add (lbtrue88 w os k hd g l cd p₀ kept f2 stk) (goT_add (lbtrue89 w os k hd g l cd p₀ kept f2 stk) (goT_add (lbtrue90 w os k hd g l cd p₀ kept f2 stk) (goT_add (lbtrue91 w os k hd g l cd p₀ kept f2 stk) (goT_add (lbtrue92 w os k hd g l cd p₀ kept f2 stk) (goT_add (lbtrue93 w os k hd g l cd p₀ kept f2 stk) (goT_add (lbtrue94 w os k hd g l cd p₀ kept f2 stk) (goT_add (lbtrue95 w os k hd g l cd p₀ kept f2 stk) (lbtrue96 w os k hd g l cd p₀ kept f2 stk)))))))))))))))))))))))))))))))))))))))))))))))))))))))))))))))))))))))))))))))))))))))))))))
theorem loopB (w : World) (os : OsState) (k : Result → Sem Fin) (hd : Option Value) (g : Bool) (l : List Value) (cd : Code) (p₀ : Pos) (kept : List Value) (f2 : Frame) (stk : List Frame) : segGoT treeTable pw w 11 anns 1 nB (SB0 w os) (thG treeTable k hd g l cd p₀ kept f2 stk) = some (SB97 w os, (thG treeTable k hd g l cd p₀ kept f2 stk)) :=
  byRow2 "special-get-raises" (P := fun w => segGoT treeTable pw w 11 anns 1 nB (SB0 w os) (thG treeTable k hd g l cd p₀ kept f2 stk) = some (SB97 w os, (thG treeTable k hd g l cd p₀ kept f2 stk))) (fun w => loopfalse w os k hd g l cd p₀ kept f2 stk) (fun w => looptrue w os k hd g l cd p₀ kept f2 stk) w
end Mine
end SecHeadLoop
set_option maxRecDepth 100000
set_option maxHeartbeats 0
set_option Elab.async false
noncomputable section SecHeadTop
namespace Mine
open PySem PySem.W PySem.Calls PyProof.Rows
noncomputable def isRet : List Frame → Bool
  | .ret _ _ _ _ _ _ _ :: _ :: _ => true
  | _ => false
theorem isRet_form {l : List Frame} (h : isRet l = true) : ∃ k hd g l' cd p₀ kept f2 stk, l = .ret k hd g l' cd p₀ kept :: f2 :: stk := by
  cases l with
  | nil => cases h
  | cons f r =>
    cases r with
    | nil => cases f <;> cases h
    | cons f2 stk =>
      cases f with
      | ret k hd g l' cd p₀ kept => exact ⟨k, hd, g, l', cd, p₀, kept, f2, stk, rfl⟩
      | gen => cases h
theorem th_eta {t : Thread} {c1 : Sem Fin} {c2 : Code} {c3 : Pos} {c4 : List Frame} (e : t.stack = c4) (h1 : t.cur = c1) (h2 : t.code = c2) (h3 : t.pos = c3) : t = ⟨c1, c2, c3, c4⟩ := by
  cases t; cases e; cases h1; cases h2; cases h3; rfl
theorem thB_form : ∃ k hd g l cd p₀ kept f2 stk, thB = thG treeTable k hd g l cd p₀ kept f2 stk := by
  obtain ⟨k, hd, g, l, cd, p₀, kept, f2, stk, e⟩ := isRet_form (show isRet thB.stack = true by kernel_rfl)
  refine ⟨k, hd, g, l, cd, p₀, kept, f2, stk, ?_⟩
  have h1 : thB.cur = denote PySem.W.Fast.tw14364793385576792824 cB := by kernel_rfl
  have h2 : thB.code = cB := by kernel_rfl
  have h3 : thB.pos = posB0 := by kernel_rfl
  rw [PySem.W.Fast.te14364793385576792824]
  exact th_eta e h1 h2 h3
theorem go11 (w : World) (os : OsState) : segGoT treeTable pw w 11 anns 1 (87 + (408 + (408 + (408 + (408 + (59 + nB)))))) (S11 w os) th11 = some (SB97 w os, thB) := by
  refine goT_add (pcA w os) (goT_add (pcA0 w os) (goT_add (pcA1 w os) (goT_add (pcA2 w os) (goT_add (pcA3 w os) (goT_add (pcB w os) ?_)))))
  obtain ⟨k, hd, g, l, cd, p₀, kept, f2, stk, e⟩ := thB_form
  rw [e]
  exact loopB w os k hd g l cd p₀ kept f2 stk
noncomputable def n11 : Nat := (87 + (408 + (408 + (408 + (408 + (59 + nB)))))) + 27
theorem run11 (w : World) (os : OsState) : segRun treeTable pw w 11 anns 1 n11 (S11 w os).abs th11 = some (.next, (S12 w os).abs, cE, pos12) :=
  seg_go (segGo_of (go11 w os)) (segRun_of (pcE w os))
noncomputable def posP : Pos := ⟨0, 0, 0, 0⟩
theorem preR (w : World) (os : OsState) : topGo treeTable pw w 11 anns 12 ⟨boot_heap w.params, #[], boot_drawn, boot_toks, os⟩ (topStub pw) = some (⟨Ha w.params, #[], boot_drawn, 187, os⟩, ⟨denote treeTable cE, cE, posP, [topFrame fr0]⟩) := by
  kernel_rfl
theorem blockR (w : World) (os : OsState) : segRun treeTable pw w 11 anns 1 1 ⟨Ha w.params, #[], boot_drawn, 187, os⟩ (blockOf (behindTheImports pw) env0 cE posP [topFrame fr0]) = some (.next, (S0 w os).abs, cE, pos0) := by
  kernel_rfl
theorem finR (w : World) (os : OsState) : topRun treeTable pw w 11 anns 2 (S20 w os).abs ⟨doneF .next, cE, pos20, [topFrame fr0]⟩ = some ⟨H20 w.params, #[], boot_drawn, 658, os⟩ := by
  kernel_rfl
theorem body_is : behindTheImports pw = sts 0 3 ++ (sts 3 1 ++ (sts 4 3 ++ (sts 7 1 ++ (sts 8 1 ++ (sts 9 1 ++ (sts 10 1 ++ (sts 11 1 ++ (sts 12 8 ++ [])))))))) := by
  kernel_rfl
noncomputable def nTop : Nat := 12 + (1 + (48 + (504 + (49 + (361 + (30 + (775 + (30 + (n11 + (228 + 2))))))))))
theorem topR (w : World) (os : OsState) : topRun treeTable pw w 11 anns nTop ⟨boot_heap w.params, #[], boot_drawn, boot_toks, os⟩ (topStub pw) = some ⟨H20 w.params, #[], boot_drawn, 658, os⟩ := by
  refine go_top (preR w os) (piece_block (blockR w os) ?_)
  rw [body_is]
  exact piece_app (segRun_of (pc0 w os)) (piece_app (segRun_of (pc3 w os)) (piece_app (segRun_of (pc4 w os)) (piece_app (segRun_of (pc7 w os)) (piece_app (segRun_of (pc8 w os)) (piece_app (segRun_of (pc9 w os)) (piece_app (segRun_of (pc10 w os)) (piece_app (run11 w os) (piece_app (segRun_of (pc12 w os)) (piece_nil (finR w os))))))))))
end Mine
end SecHeadTop
set_option maxRecDepth 100000
set_option maxHeartbeats 0
set_option Elab.async false
noncomputable section SecHeadEnd
namespace Mine
open PySem PySem.W PySem.Calls PyProof.Rows
noncomputable def vw : Program := view pw [0, 2, 3, 5, 7, 8, 9, 10, 11, 12, 14, 15, 16, 17, 18, 19]
noncomputable def lz : List Str := [Str.ofString "_Accumulator", Str.ofString "c7_set", Str.ofString "c8_set", Str.ofString "c9_set"]
noncomputable abbrev rwr := PySem.Challenge.rw_xn0003_01.row
theorem kas_is : ∀ P, Kas = (Kf P).map (·.1) := fun _ => by kernel_rfl
noncomputable abbrev hk : Hook := kHook Kf Kas kas_is
noncomputable abbrev xt (s : Shared) : Bool := xlAt vw [] s && recOk (RowW.records rwr.toRowW) s
theorem openH : ∀ w : World, (fencedOpening treeTable pw w 12000).map (fun s => (s.heap, s.gens, s.drawn, s.toks)) = some (boot_heap w.params, #[], boot_drawn, boot_toks) :=
  boot_open (by kernel_rfl) (by kernel_rfl) (fun s => by kernel_rfl)
theorem sizeH : ∀ w : World, ((boot_heap w.params).isNs mainGlobals && (#[] : Array GenState).size == 0, (boot_heap w.params).objs.size, (boot_heap w.params).nsMap mainGlobals "__annotations__") = (true, 11, anns) := fun w => by kernel_rfl
theorem leH : Nat.ble nTop 12000 = true := by decide +kernel
theorem look1 (w : World) (os : OsState) : (staticsOk (importedModules pw.main.body) (boot_heap w.params) (H20 w.params) && namesBound pw (H20 w.params) && gensDone ⟨H20 w.params, #[], boot_drawn, 658, os⟩ && laidKept (boot_heap w.params) (H20 w.params)) = true := by kernel_rfl
theorem look3 (w : World) (os : OsState) : Hook.obs hk ⟨H20 w.params, #[], boot_drawn, 658, os⟩ = Hook.val hk w := by
  show Kas.map (H20 w.params).get? = (Kf w.params).map (fun p => some p.2)
  kernel_rfl
theorem look2 (w : World) (os : OsState) : openSeen vw lz (importedModules pw.main.body) xt true ⟨H20 w.params, #[], boot_drawn, 658, os⟩ = openGood vw lz := by
  rw [PySem.W.Fast.te4187177175401517315]
  kernel_rfl
theorem leftH : LeftO rwr.toRowW.prog vw lz (fun s => xlAt vw [] s && recOk (RowW.records rwr.toRowW) s) (Hook.obs (kHook Kf Kas kas_is)) (Hook.val (kHook Kf Kas kas_is)) 12000 :=
  LeftO.of_pieces (p := pw) (H₀ := boot_heap) (H₁ := H20) (gs₀ := #[]) (gs₁ := #[]) (d₀ := boot_drawn) (d₁ := boot_drawn) (k₀ := boot_toks) (k₁ := 658) (m₀ := 11) (ann := anns) (M := nTop) openH sizeH topR leH
    fun w => funext fun os => Prod.ext (look1 w os) (Prod.ext (look2 w os) (look3 w os))
end Mine
end SecHeadEnd
set_option maxRecDepth 100000
set_option maxHeartbeats 8000000
set_option Elab.async false
open PySem PySem.W PySem.Calls PyProof.Rows Mine
noncomputable section SecHeadFin
namespace Mine
noncomputable def fnPos : Stmt → Pos
  | .FunctionDef _ _ _ _ _ _ _ _ _ p => p
  | _ => ⟨0, 0, 0, 0⟩
noncomputable def dL : DefRec := ⟨"law", fnP (stm 19), fnB (stm 19), fnS (stm 19), fnPos (stm 19)⟩
theorem dL1 : defOf vw rwr.toRowW.name = some (dL, []) := by kernel_rfl
theorem dL2 : rwr.toRowW.prog.theDef rwr.toRowW.name = some (dL.params, dL.body, dL.scope) := by kernel_rfl
theorem dL3 : kwWritten? dL.params.kwonlyargs dL.params.kw_defaults = some [] := by kernel_rfl
theorem said : PySem.Challenge.rw_xn0003_01.wellSaid = true := by decide +kernel
theorem hd (walk : WalkO vw lz (XL vw []) (kHook Kf Kas kas_is).says rwr.toRowW dL [] (fun f vs => PySem.call f vs)) : PySem.Challenge.rw_xn0003_01.Holds := by
  refine holds_law said fun said => ?_
  refine PySem.W.holds_open (q := vw) (loose := lz) (Xt := fun s => xlAt vw [] s && recOk (RowW.records rwr.toRowW) s) (XP := XL vw []) (Yf := Hook.obs (kHook Kf Kas kas_is)) (Ya := Hook.val (kHook Kf Kas kas_is)) (YP := Hook.says (kHook Kf Kas kas_is)) (N := 12000) leftH (Hook.of _) (Hook.keeps _) (fun s e => xl_of s (Bool.and_eq_true_iff.mp e).1) XL.keeps dL1 dL2 dL3 (fun s e => recFacts_of (Bool.and_eq_true_iff.mp e).2) (by rfl) (by assumption) (by decide +kernel) ⟨rfl, rfl, rfl, rfl, rfl, by decide +kernel⟩ ?hw walk
  case hw => w_witness2
end Mine
end SecHeadFin
set_option maxRecDepth 100000
set_option maxHeartbeats 8000000
set_option Elab.async false
open PySem PySem.W PySem.Calls PyProof.Rows PySem.Spec
noncomputable section SecSetFacts
namespace Mine
variable {w : World} {mean : ExcName → Option Value} {mg mb : Str → Option Value}
theorem regSetFacts : Kf = Kf ∧ PySem.Challenge.rw_xn0003_01 = PySem.Challenge.rw_xn0003_01 := by
  k_fill
  try (walk1; fail "looked")
  exact ⟨rfl, rfl⟩
noncomputable def okE (e : Int × Value) : Bool := match e.2 with
  | .int i _ => e.1 == hashInt i
  | _ => false
noncomputable def esOf : PySem.Data → List (Int × Value)
  | .set es _ _ => es.toList
  | _ => []
noncomputable def epOf : PySem.Data → Nat
  | .set _ n _ => n
  | _ => 0
noncomputable def tabOf : PySem.Data → SetTable
  | .set _ _ t => t
  | _ => default
noncomputable def memS (l : List (Int × Value)) (k : Int) : Bool := l.any fun e => Value.isInt k e.2
theorem setOf_at {h : Heap} {a : Addr} {o : Obj} {es : Array (Int × Value)} {ep : Nat} {t : SetTable} {n : Nat} (ho : h.get? a = some o) (hx : o.ExactSet) (hd : o.data = .set es ep t)
    (hn : es.size = n) (hb : n < scanBound) (hf : t.fits es.size = true) (hall : es.toList.all okE = true) : h.SetOf (intKind pw w) a (memS es.toList) n := by
  refine ⟨o, es, ep, t, ho, hx, hd, ?_, ?_, hn ▸ hb, hf, hn⟩
  · intro e he
    have h1 := List.all_eq_true.mp hall e he
    obtain ⟨hh, v⟩ := e
    cases v with
    | int i tk =>
      have h2 : hh = hashInt i := by simpa [okE] using h1
      exact ⟨⟨i, intKind_is pw w i tk, h2⟩, rfl⟩
    | _ => simp [okE] at h1
  · intro k
    exact List.any_eq_true
noncomputable def in7 (k : Int) : Bool := decide (12272 ≤ k ∧ k < 12284)
noncomputable def in8 (k : Int) : Bool := decide (k = 832 ∨ k = 833 ∨ k = 8206 ∨ k = 8207 ∨ (8234 ≤ k ∧ k < 8239) ∨ (8298 ≤ k ∧ k < 8304))
noncomputable def in9 (k : Int) : Bool := decide (k = 917505 ∨ (917536 ≤ k ∧ k < 917632))
theorem memS_eq {l : List (Int × Value)} {p : Int → Bool} (h1 : (l.all fun e => match e.2 with | .int i _ => p i | _ => false) = true) (h2 : ∀ k, p k = true → memS l k = true) (k : Int) : memS l k = p k := by
  rw [Bool.eq_iff_iff]
  refine ⟨fun h => ?_, h2 k⟩
  obtain ⟨e, he, hk⟩ := List.any_eq_true.mp h
  have h3 := List.all_eq_true.mp h1 e he
  obtain ⟨hh, v⟩ := e
  obtain ⟨t, rfl⟩ := Value.isInt_shape hk
  exact h3
theorem range_of {a : Int} {n : Nat} {q : Int → Bool} (h : ((List.range n).all fun i => q (a + (i : Int))) = true) (k : Int) (h0 : a ≤ k) (h1 : k < a + (n : Int)) : q k = true := by
  have h2 := List.all_eq_true.mp h (k - a).toNat (List.mem_range.mpr (by omega))
  have : a + (((k - a).toNat : Nat) : Int) = k := by omega
  rwa [this] at h2
noncomputable def l7 : List (Int × Value) := esOf (x114v0 w0.params).data
noncomputable def l8 : List (Int × Value) := esOf (x138v0 w0.params).data
noncomputable def l9 : List (Int × Value) := esOf (x156v97 w0.params).data
theorem e7 : memS l7 = in7 := funext (memS_eq (by decide +kernel) fun k hk => by
  have hk' := of_decide_eq_true hk
  exact range_of (a := 12272) (n := 12) (by decide +kernel) k hk'.1 hk'.2)
theorem e8 : memS l8 = in8 := funext (memS_eq (by decide +kernel) fun k hk => by
  rcases of_decide_eq_true hk with rfl | rfl | rfl | rfl | hk' | hk'
  · decide +kernel
  · decide +kernel
  · decide +kernel
  · decide +kernel
  · exact range_of (a := 8234) (n := 5) (by decide +kernel) k hk'.1 hk'.2
  · exact range_of (a := 8298) (n := 6) (by decide +kernel) k hk'.1 hk'.2)
theorem e9 : memS l9 = in9 := funext (memS_eq (by decide +kernel) fun k hk => by
  rcases of_decide_eq_true hk with rfl | hk'
  · decide +kernel
  · exact range_of (a := 917536) (n := 96) (by decide +kernel) k hk'.1 hk'.2)
theorem set7 {h : Heap} (X : (Kf w.params).In h) : h.SetOf (intKind pw w) 114 in7 12 := by
  have ho : h.get? 114 = some (x114v0 w.params) := X _ _ (by kernel_rfl)
  rw [← e7]
  exact setOf_at (w := w) (es := l7.toArray) (ep := epOf (x114v0 w.params).data) (t := tabOf (x114v0 w.params).data) ho ⟨rfl, rfl, rfl⟩ (by kernel_rfl) (by kernel_rfl) (by decide) (by kernel_rfl) (by decide +kernel)
theorem set8 {h : Heap} (X : (Kf w.params).In h) : h.SetOf (intKind pw w) 138 in8 15 := by
  have ho : h.get? 138 = some (x138v0 w.params) := X _ _ (by kernel_rfl)
  rw [← e8]
  exact setOf_at (w := w) (es := l8.toArray) (ep := epOf (x138v0 w.params).data) (t := tabOf (x138v0 w.params).data) ho ⟨rfl, rfl, rfl⟩ (by kernel_rfl) (by kernel_rfl) (by decide) (by kernel_rfl) (by decide +kernel)
theorem set9 {h : Heap} (X : (Kf w.params).In h) : h.SetOf (intKind pw w) 156 in9 97 := by
  have ho : h.get? 156 = some (x156v97 w.params) := X _ _ (by kernel_rfl)
  rw [← e9]
  exact setOf_at (w := w) (es := l9.toArray) (ep := epOf (x156v97 w.params).data) (t := tabOf (x156v97 w.params).data) ho ⟨rfl, rfl, rfl⟩ (by kernel_rfl) (by kernel_rfl) (by decide) (by kernel_rfl) (by decide +kernel)
end Mine
end SecSetFacts
set_option maxRecDepth 100000
set_option maxHeartbeats 8000000
set_option Elab.async false
set_option linter.unusedVariables false
set_option linter.unusedSimpArgs false
open PySem PySem.W PySem.Calls PyProof.Rows PySem.Spec
noncomputable section SecCalls
namespace Mine
variable {w : World} {mean : ExcName → Option Value} {mg mb : Str → Option Value}
theorem regCalls : Kf = Kf ∧ PySem.Challenge.rw_xn0003_01 = PySem.Challenge.rw_xn0003_01 := by
  k_fill
  try (walk1; fail "looked")
  exact ⟨rfl, rfl⟩
local macro_rules | `(tactic| walk_at "compareOp In int ref") => `(tactic| (k_here; (with_reducible show wpAny _ _ (compareOp CmpOp.In (Value.int _ _) (Value.ref _)) _ _ _); (refine wpAny_inSet_of (intKind_is _ _ _ _) rfl (by first | exact set7 (by k_in) | exact set8 (by k_in) | exact set9 (by k_in)) ?_)))
theorem in7_spec (dp un : Nat) (gd : Option (List Code)) (cn : Str) (cs : Scope) (a : Addr) (ccd : Value) (cl : List (Str × Addr)) (outer : List Env) (A₀ : Around) (base h₀ : Heap) (L : Addr) (m : Str → Option Value) (news : List (Addr × Obj)) (s : Shared) (c : Nat) (t : Tok) (Q E : Value → Shared → Prop)
   (B : Below A₀ base outer h₀) (F : Fr h₀ L s.heap m) (X : (Kf w.params).In h₀) (N : News h₀ L s.heap news) (T : Top vw (looseW vw lz) mean mg mb h₀) (hk : cs.kind = .function) (hd : dp + 1 < recursionLimit) (hu : un + 8 < cLine)
   (hret : ∀ (h' : Heap) (tk' : Nat), Fr h₀ L h' m → News h₀ L h' news → Q (.bool (in7 c)) { s with heap := h', toks := tk' }) :
   wpAny (model pw w) (ktrTop dp un gd cn cs L a ccd cl outer) (call (.ref 124) [.str (Str.mk #[c]) t]) Q E s := by
  refine wpAny_call ?_
  k_dflt cell_enter
  conv in fnB _ => whnf
  k_steps
  all_goals exact hret _ _ (by assumption) (by assumption)
theorem in8_spec (dp un : Nat) (gd : Option (List Code)) (cn : Str) (cs : Scope) (a : Addr) (ccd : Value) (cl : List (Str × Addr)) (outer : List Env) (A₀ : Around) (base h₀ : Heap) (L : Addr) (m : Str → Option Value) (news : List (Addr × Obj)) (s : Shared) (c : Nat) (t : Tok) (Q E : Value → Shared → Prop)
   (B : Below A₀ base outer h₀) (F : Fr h₀ L s.heap m) (X : (Kf w.params).In h₀) (N : News h₀ L s.heap news) (T : Top vw (looseW vw lz) mean mg mb h₀) (hk : cs.kind = .function) (hd : dp + 1 < recursionLimit) (hu : un + 8 < cLine)
   (hret : ∀ (h' : Heap) (tk' : Nat), Fr h₀ L h' m → News h₀ L h' news → Q (.bool (in8 c)) { s with heap := h', toks := tk' }) :
   wpAny (model pw w) (ktrTop dp un gd cn cs L a ccd cl outer) (call (.ref 148) [.str (Str.mk #[c]) t]) Q E s := by
  refine wpAny_call ?_
  k_dflt cell_enter
  conv in fnB _ => whnf
  k_steps
  all_goals exact hret _ _ (by assumption) (by assumption)
theorem in9_spec (dp un : Nat) (gd : Option (List Code)) (cn : Str) (cs : Scope) (a : Addr) (ccd : Value) (cl : List (Str × Addr)) (outer : List Env) (A₀ : Around) (base h₀ : Heap) (L : Addr) (m : Str → Option Value) (news : List (Addr × Obj)) (s : Shared) (c : Nat) (t : Tok) (Q E : Value → Shared → Prop)
   (B : Below A₀ base outer h₀) (F : Fr h₀ L s.heap m) (X : (Kf w.params).In h₀) (N : News h₀ L s.heap news) (T : Top vw (looseW vw lz) mean mg mb h₀) (hk : cs.kind = .function) (hd : dp + 1 < recursionLimit) (hu : un + 8 < cLine)
   (hret : ∀ (h' : Heap) (tk' : Nat), Fr h₀ L h' m → News h₀ L h' news → Q (.bool (in9 c)) { s with heap := h', toks := tk' }) :
   wpAny (model pw w) (ktrTop dp un gd cn cs L a ccd cl outer) (call (.ref 166) [.str (Str.mk #[c]) t]) Q E s := by
  refine wpAny_call ?_
  k_dflt cell_enter
  conv in fnB _ => whnf
  k_steps
  all_goals exact hret _ _ (by assumption) (by assumption)
theorem strcoll_spec (dp un : Nat) (gd : Option (List Code)) (cn : Str) (cs : Scope) (a : Addr) (ccd : Value) (cl : List (Str × Addr)) (outer : List Env) (A₀ : Around) (base h₀ : Heap) (L : Addr) (m : Str → Option Value) (news : List (Addr × Obj)) (s : Shared) (x y : Str) (t u : Tok) (Q E : Value → Shared → Prop)
   (B : Below A₀ base outer h₀) (F : Fr h₀ L s.heap m) (X : (Kf w.params).In h₀) (N : News h₀ L s.heap news) (T : Top vw (looseW vw lz) mean mg mb h₀) (hk : cs.kind = .function) (hd : dp + 1 < recursionLimit) (hu : un + 8 < cLine)
   (hret : ∀ (t : Tok) (h' : Heap) (tk' : Nat), Fr h₀ L h' m → News h₀ L h' news → Q (.int (b2i (decide (y.cps.toList < x.cps.toList)) - b2i (decide (x.cps.toList < y.cps.toList))) t) { s with heap := h', toks := tk' }) :
   wpAny (model pw w) (ktrTop dp un gd cn cs L a ccd cl outer) (call (.ref 112) [.str x t, .str y u]) Q E s := by
  refine wpAny_call ?_
  k_dflt cell_enter
  conv in fnB _ => whnf
  k_steps
  exact hret _ _ _ (by assumption) (by assumption)
end Mine
end SecCalls
set_option maxRecDepth 100000
set_option maxHeartbeats 8000000
set_option Elab.async false
set_option linter.unusedVariables false
set_option linter.unusedSimpArgs false
open PySem PySem.W PySem.Calls PyProof.Rows PySem.Spec
noncomputable section SecIter
namespace Mine
variable {w : World} {mean : ExcName → Option Value} {mg mb : Str → Option Value}
theorem regIter : Kf = Kf ∧ PySem.Challenge.rw_xn0003_01 = PySem.Challenge.rw_xn0003_01 := by
  k_fill
  try (walk1; fail "looked")
  exact ⟨rfl, rfl⟩
section
variable {prog : Program} {A : Around} {E : Value → Shared → Prop} {s : Shared} {env : Env} {h₀ : Heap} {x : Str} {body : List Stmt} {Q : Flow → Shared → Prop}
theorem iter_str {y : Str} {t : Tok} {m₀ : Str → Option Value} {news : List (Addr × Obj)} (J : Nat → (Str → Option Value) → Prop)
    (hh : A.handled = none) (F : Fr h₀ env.locals s.heap m₀) (N : News h₀ env.locals s.heap news) (hj : J 0 m₀)
    (turn : ∀ i c u m₁ h tk own, y.cps[i]? = some c → J i m₁ → Fr h₀ env.locals h (fun z => if z = x then some (.str ⟨#[c]⟩ u) else m₁ z) → News h₀ env.locals h (own ++ news) →
      wpAny (model prog w) A (execs body env) (InvPost h₀ env.locals (J (i + 1)) (own ++ news) { s with heap := h, toks := tk } Q) E { s with heap := h, toks := tk })
    (done : ∀ m₁ h tk, J y.cps.size m₁ → Fr h₀ env.locals h m₁ → News h₀ env.locals h news → Q .next { s with heap := h, toks := tk }) :
    wpAny (model prog w) A (pyIter (.str y t)) (fun it s₂ => LoopAtV prog w A h₀ env x body Q E it s₂) E s := by
  refine wpAny_pyIter_str fun o St W st => ?_
  let J' : Nat → (Str → Option Value) → List (Addr × Obj) → Prop := fun i m₁ news₁ => news₁ = news ∧ J i m₁
  refine ⟨_, _, _, y.cps.size, _, _, m₀, news, J', rfl, W A hh, ?_, ?_, ?_, st, F.push _, (fun p hp => ⟨Heap.get?_push_of_some _ (N p hp).1, (N p hp).2⟩), ⟨rfl, hj⟩, ?_, ?_⟩
  · intro hm
    exact absurd F.ns.lt ((List.mem_singleton.mp hm) ▸ Nat.lt_irrefl _)
  · intro b hb
    rw [List.mem_singleton.mp hb]
    exact next_is_new F
  · intro p hp hI
    exact absurd (Heap.lt_size (N p hp).1) ((List.mem_singleton.mp hI) ▸ Nat.lt_irrefl _)
  · rintro i v m₁ news₁ s₁ own ⟨hh', tk', rfl⟩ hin hP ⟨rfl, hJ⟩ hoff _ _ _ _ F₁ N₁
    obtain ⟨c, u, hc, rfl⟩ := hP
    refine wpAny_mono (turn i c u m₁ hh' tk' own hc hJ F₁ N₁) (fun f s₂ p => ?_) fun _ _ e => e
    have fin : InvEnd h₀ env.locals (J (i + 1)) (own ++ news₁) { s with heap := hh', toks := tk' } s₂ → LoopStepU h₀ env.locals [s.heap.objs.size] own (J' (i + 1)) { s with heap := hh', toks := tk' } .next s₂ := by
      rintro ⟨h', tk, m', news', e, F', N', hn, hm⟩
      exact ⟨rfl, h', tk, m', news₁, e, F', fun p hp => N' p (hn p hp), hoff, rfl, hm⟩
    cases f with
    | ret v => exact .ret p
    | brk => exact .brk p
    | next => exact .next (fin p)
    | cont => exact .cont (fin p)
  · rintro h' tk m' news' F' N' _ ⟨rfl, hJ⟩
    exact done m' h' tk hJ F' N'
end
end Mine
end SecIter
set_option maxRecDepth 100000
set_option maxHeartbeats 8000000
set_option Elab.async false
set_option linter.unusedVariables false
set_option linter.unusedSimpArgs false
open PySem PySem.W PySem.Calls PyProof.Rows PySem.Spec
noncomputable section SecRead
namespace Mine
variable {w : World} {mean : ExcName → Option Value} {mg mb : Str → Option Value}
theorem regRead : Kf = Kf ∧ PySem.Challenge.rw_xn0003_01 = PySem.Challenge.rw_xn0003_01 := by
  k_fill
  try (walk1; fail "looked")
  exact ⟨rfl, rfl⟩
section
variable {prog : Program} {A : Around} {E : Value → Shared → Prop} {s : Shared} {env : Env} {h₀ : Heap} {x : Str} {body : List Stmt} {Q : Flow → Shared → Prop}
noncomputable def updW (acc x : Str) (a v : Option Value) (m₀ : Str → Option Value) : Str → Option Value := fun z => if z = acc then a else if z = x then v else m₀ z
theorem iter_strA {y : Str} {t tk0 : Tok} {m₀ : Str → Option Value} {news : List (Addr × Obj)} (acc : Str) (val : Nat → Str) (hne : acc ≠ x)
    (hh : A.handled = none) (F : Fr h₀ env.locals s.heap m₀) (N : News h₀ env.locals s.heap news) (hj : m₀ acc = some (.str (val 0) tk0))
    (turn : ∀ i c u v tk1 h tk own, y.cps[i]? = some c → Fr h₀ env.locals h (fun z => if z = x then some (.str ⟨#[c]⟩ u) else if z = acc then some (.str (val i) tk1) else if z = x then v else m₀ z) → News h₀ env.locals h (own ++ news) →
      wpAny (model prog w) A (execs body env) (InvPost h₀ env.locals (fun m' => ∃ v tk, m' = updW acc x (some (.str (val (i + 1)) tk)) v m₀) (own ++ news) { s with heap := h, toks := tk } Q) E { s with heap := h, toks := tk })
    (done : ∀ v tk1 h tk, Fr h₀ env.locals h (fun z => if z = acc then some (.str (val y.cps.size) tk1) else if z = x then v else m₀ z) → News h₀ env.locals h news → Q .next { s with heap := h, toks := tk }) :
    wpAny (model prog w) A (pyIter (.str y t)) (fun it s₂ => LoopAtV prog w A h₀ env x body Q E it s₂) E s := by
  refine iter_str (fun i m₁ => ∃ v tk, m₁ = updW acc x (some (.str (val i) tk)) v m₀) hh F N ⟨m₀ x, tk0, ?_⟩ ?_ ?_
  · funext z
    unfold updW
    by_cases h1 : z = acc
    · rw [if_pos h1, h1, hj]
    · rw [if_neg h1]
      by_cases h2 : z = x
      · rw [if_pos h2, h2]
      · rw [if_neg h2]
  · rintro i c u m₁ h tk own hc ⟨v, tk1, rfl⟩ F₁ N₁
    exact turn i c u v tk1 h tk own hc F₁ N₁
  · rintro m₁ h tk ⟨v, tk1, rfl⟩ F₁ N₁
    exact done v tk1 h tk F₁ N₁
end
noncomputable def Stop (P : Prop) : Prop := P
theorem Stop.go {P : Prop} (h : Stop P) : P := h
noncomputable def signOf (a b c k : Nat) : List Nat := if in7 k then [a] else if in8 k then [b] else if in9 k then [c] else []
noncomputable def readOf (a b c : Nat) (l : List Nat) : List Nat := l.flatMap (signOf a b c)
local macro_rules | `(tactic| walk_at "pyIter str") => `(tactic| (k_here; refine Stop.go ?_))
local macro_rules | `(tactic| walk_at "exec For") => `(tactic| (k_here; (with_reducible rename Fr _ _ _ _ => lF'); (with_unfolding_all refine' For_invVF lF' ?k1 ?k2 ?_; (case k1 => exact rfl); (case k2 => exact rfl); k_whole)))
local macro_rules | `(tactic| walk_at "call ref") => `(tactic| (k_here; k_dflt (refine' in7_spec _ _ _ _ _ _ _ _ _ _ _ _ _ _ _ _ _ _ _ _ ?b ?f ?x ?n ?t ?k ?d ?u ?_; (case b => k_asm); (case f => k_asm); (case x => k_asm); (case n => k_asm); (case t => k_asm); (case k => first | exact rfl | assumption); (case d => ktr_room); (case u => ktr_units)); intro h9 tk9 F9 N9; (try dsimp only)))
local macro_rules | `(tactic| walk_at "call ref") => `(tactic| (k_here; k_dflt (refine' in8_spec _ _ _ _ _ _ _ _ _ _ _ _ _ _ _ _ _ _ _ _ ?b ?f ?x ?n ?t ?k ?d ?u ?_; (case b => k_asm); (case f => k_asm); (case x => k_asm); (case n => k_asm); (case t => k_asm); (case k => first | exact rfl | assumption); (case d => ktr_room); (case u => ktr_units)); intro h9 tk9 F9 N9; (try dsimp only)))
local macro_rules | `(tactic| walk_at "call ref") => `(tactic| (k_here; k_dflt (refine' in9_spec _ _ _ _ _ _ _ _ _ _ _ _ _ _ _ _ _ _ _ _ ?b ?f ?x ?n ?t ?k ?d ?u ?_; (case b => k_asm); (case f => k_asm); (case x => k_asm); (case n => k_asm); (case t => k_asm); (case k => first | exact rfl | assumption); (case d => ktr_room); (case u => ktr_units)); intro h9 tk9 F9 N9; (try dsimp only)))
theorem sz_of {x y : Str} (hx : x.length ≤ 1000) (hy : y.length ≤ 1000) : x.length + y.length ≤ sizeLine := by
  rw [sizeLine_eq]; omega
theorem read_len {a b c n : Nat} {l : List Nat} (h : l.length ≤ n) : (Str.mk (readOf a b c l).toArray).length ≤ n := by
  refine Nat.le_trans ?_ h
  show (readOf a b c l).toArray.size ≤ _
  rw [List.size_toArray]
  unfold readOf
  induction l with
  | nil => exact Nat.le_refl _
  | cons k r ih =>
    rw [List.flatMap_cons, List.length_append, List.length_cons]
    have h1 : (signOf a b c k).length ≤ 1 := by
      unfold signOf; split <;> (try split) <;> (try split) <;> simp
    have h2 := ih (by rw [List.length_cons] at h; omega)
    omega
local macro_rules | `(tactic| walk_at "inplaceOp Add str str") => `(tactic| (k_here; refine SBL.iadd (hsz := ?hsz) ?_; (case hsz => exact sz_of (read_len (by simp only [List.length_take, Array.length_toList]; omega)) (by first | decide | exact Nat.le_of_ble_eq_true rfl)); intro t9 k9))
theorem updW_is {acc x : Str} {m₀ : Str → Option Value} {b d v : Option Value} {p q : Str} {t : Tok} (e : p = q) :
    (fun y => if y = acc then some (Value.str p t) else if y = x then v else if y = acc then b else if y = x then d else m₀ y) = updW acc x (some (.str q t)) v m₀ := by
  subst e
  funext y
  unfold updW
  by_cases h1 : y = acc
  · rw [if_pos h1, if_pos h1]
  · simp only [if_neg h1]
    by_cases h2 : y = x
    · rw [if_pos h2, if_pos h2]
    · simp only [if_neg h2]
theorem updW_no {acc x : Str} {m₀ : Str → Option Value} {d v : Option Value} {p q : Str} {t : Tok} (hne : acc ≠ x) (e : p = q) :
    (fun y => if y = x then v else if y = acc then some (Value.str p t) else if y = x then d else m₀ y) = updW acc x (some (.str q t)) v m₀ := by
  subst e
  funext y
  unfold updW
  by_cases h1 : y = acc
  · have h2 : ¬ y = x := h1 ▸ hne
    simp only [if_pos h1, if_neg h2]
  · simp only [if_neg h1]
    by_cases h2 : y = x
    · rw [if_pos h2, if_pos h2]
    · simp only [if_neg h2]
theorem read_snoc {a b c k : Nat} {l : List Nat} (r : List Nat) (h : signOf a b c k = r) : (Str.mk (readOf a b c (l ++ [k])).toArray) = Str.mk ((readOf a b c l) ++ r).toArray := by
  unfold readOf
  rw [List.flatMap_append, List.flatMap_singleton, h]
theorem app_item {l r : List Nat} {y : Str} (h : y = ⟨r.toArray⟩) : (Str.mk l.toArray ++ y) = Str.mk (l ++ r).toArray := by
  subst h
  show Str.mk (l.toArray ++ r.toArray) = _
  rw [List.append_toArray]
theorem read_spec (dp un : Nat) (gd : Option (List Code)) (cn : Str) (cs : Scope) (a : Addr) (ccd : Value) (cl : List (Str × Addr)) (outer : List Env) (A₀ : Around) (base h₀ : Heap) (L : Addr) (m : Str → Option Value) (news : List (Addr × Obj)) (s : Shared) (x : Str) (c0 c1 c2 : Nat) (t u : Tok) (Q E : Value → Shared → Prop)
   (B : Below A₀ base outer h₀) (F : Fr h₀ L s.heap m) (X : (Kf w.params).In h₀) (N : News h₀ L s.heap news) (T : Top vw (looseW vw lz) mean mg mb h₀) (hk : cs.kind = .function) (hd : dp + 2 < recursionLimit) (hu : un + 16 < cLine) (hx : x.cps.size ≤ 64)
   (hret : ∀ (t : Tok) (h' : Heap) (tk' : Nat), Fr h₀ L h' m → News h₀ L h' news → Q (.str ⟨(readOf c0 c1 c2 x.cps.toList).toArray⟩ t) { s with heap := h', toks := tk' }) :
   wpAny (model pw w) (ktrTop dp un gd cn cs L a ccd cl outer) (call (.ref 180) [.str x t, .str (Str.mk #[c0, c1, c2]) u]) Q E s := by
  refine wpAny_call ?_
  k_dflt cell_enter
  conv in fnB _ => whnf
  k_steps
  unfold Stop
  (rename Fr _ _ _ _ => lF)
  (rename News _ _ _ _ => lN)
  refine iter_strA (Str.ofString "word") (fun i => ⟨(readOf c0 c1 c2 (x.cps.toList.take i)).toArray⟩) (by decide) rfl lF lN rfl ?_ ?_
  · intro i c u' v tk1 h9 tk own hc F₁ N₁
    have hs : x.cps.toList.take (i + 1) = x.cps.toList.take i ++ [c] := by
      rw [List.take_add_one, Array.getElem?_toList, hc]; rfl
    k_steps
    · refine InvEnd.intro (by assumption) (by assumption) (fun p hp => hp) ⟨_, _, updW_is ?_⟩
      rw [hs, read_snoc [c0] (by unfold signOf; simp only [*, if_true, Bool.false_eq_true, if_false])]
      exact app_item rfl
    · refine InvEnd.intro (by assumption) (by assumption) (fun p hp => hp) ⟨_, _, updW_is ?_⟩
      rw [hs, read_snoc [c1] (by unfold signOf; simp only [*, if_true, Bool.false_eq_true, if_false])]
      exact app_item rfl
    · refine InvEnd.intro (by assumption) (by assumption) (fun p hp => hp) ⟨_, _, updW_is ?_⟩
      rw [hs, read_snoc [c2] (by unfold signOf; simp only [*, if_true, Bool.false_eq_true, if_false])]
      exact app_item rfl
    · refine InvEnd.intro (by assumption) (by assumption) (fun p hp => hp) ⟨_, _, updW_no (by decide) ?_⟩
      rw [hs, read_snoc [] (by unfold signOf; simp only [*, if_true, Bool.false_eq_true, if_false])]
      rw [List.append_nil]
  · intro v tk1 h tk F₁ N₁
    have hs : x.cps.toList.take x.cps.size = x.cps.toList := by rw [← Array.length_toList, List.take_length]
    rw [hs] at F₁
    k_steps
    all_goals exact hret _ _ _ (by assumption) (by assumption)
end Mine
end SecRead
set_option maxRecDepth 100000
set_option maxHeartbeats 8000000
set_option Elab.async false
set_option linter.unusedVariables false
set_option linter.unusedSimpArgs false
open PySem PySem.W PySem.Calls PyProof.Rows PySem.Spec
noncomputable section SecEnds
namespace Mine
variable {w : World} {mean : ExcName → Option Value} {mg mb : Str → Option Value}
theorem regEnds : Kf = Kf ∧ PySem.Challenge.rw_xn0003_01 = PySem.Challenge.rw_xn0003_01 := by
  k_fill
  try (walk1; fail "looked")
  exact ⟨rfl, rfl⟩
local macro_rules | `(tactic| walk_at "exec While") => `(tactic| (k_here; refine Stop.go ?_))
theorem item_val {x : Str} {i : Int} (h0 : 0 ≤ i) (h1 : i < (x.cps.size : Int)) : Txt.item x i = ⟨#[x.cps.toList.getD i.toNat 0]⟩ := by
  have h2 : i.toNat < x.cps.size := by omega
  have h3 : seqIndex? i x.length = some i.toNat := by
    have e : (if i < 0 then i + (x.length : Int) else i) = i := if_neg (by omega)
    unfold seqIndex?
    simp only [e]
    have h4 : i < (x.length : Int) := h1
    rw [decide_eq_true h0, decide_eq_true h4]
    rfl
  show Str.mk #[(Txt.charAt x i).getD 0] = _
  congr 3
  unfold Txt.charAt
  rw [h3]
  show (x.cps[i.toNat]?).getD 0 = _
  rw [List.getD_eq_getElem?_getD, Array.getElem?_toList]
theorem item_strK {prog : Program} {w : World} {A : Around} {E : Value → Shared → Prop} {s : Shared} {value slice : Expr} {x : Str} {t : Tok} {Q : Value → Shared → Prop} {i : Int} {u : Tok} (h0 : 0 ≤ i) (h1 : i < (x.cps.size : Int)) (hb : x.cps.size ≤ 64)
    (h : Q (.str ⟨#[x.cps.toList.getD i.toNat 0]⟩ s.toks) { s with toks := s.toks + 1 })
    (hs : subscripted slice false (.str x t) (.int i u) = operate [.str x t, .int i u] (getItem (.str x t) (.int i u)) := by with_unfolding_all rfl)
    (ht : ∀ r, letTemporaryGo value (.str x t) r = pure () := by intro _; with_unfolding_all rfl) :
    wpAny (model prog w) A (subscriptTail value slice (.str x t) (.int i u)) Q E s := by
  rw [← item_val h0 h1] at h
  refine item_str (fitsSsize_of (N := 9223372036854775808) (by omega) (by omega) (Int.le_refl _)) ?_ h1 (fun _ => h) hs ht
  have : x.length = x.cps.size := rfl
  omega
local macro_rules | `(tactic| walk_at "subscriptTail") => `(tactic| (k_here; (with_reducible show wpAny _ _ (subscriptTail _ _ (Value.str _ _) (Value.int _ _)) _ _ _); refine item_strK (by omega) (by omega) (by omega) ?_))
local macro_rules | `(tactic| walk_at "subscriptTail Name Name str int") => `(tactic| (k_here; (with_reducible show wpAny _ _ (subscriptTail _ _ (Value.str _ _) (Value.int _ _)) _ _ _); refine item_strK (by omega) (by omega) (by omega) ?_))
local macro_rules | `(tactic| walk_at "subscriptTail Name BinOp str int") => `(tactic| (k_here; (with_reducible show wpAny _ _ (subscriptTail _ _ (Value.str _ _) (Value.int _ _)) _ _ _); refine item_strK (by omega) (by omega) (by omega) ?_))
theorem len_strK {prog : Program} {w : World} {A : Around} {E : Value → Shared → Prop} {s : Shared} {x : Str} {t : Tok} {Q : Value → Shared → Prop} (hb : x.cps.size ≤ 64) (h : Q (.int (x.cps.size : Int) (s.toks + 1)) { s with toks := s.toks + 1 + 1 }) :
    wpAny (model prog w) A (call (.builtin "len") [.str x t]) Q E s := by
  have h1 : x.length = x.cps.size := rfl
  exact SBL.len (by omega) h
local macro_rules | `(tactic| walk_at "call builtin:len") => `(tactic| (k_here; refine len_strK (by omega) ?_))
/-- the stretch's start, moved up while the letters agree -/
@[irreducible] noncomputable def upS (l : List Nat) (z : Nat) : Nat → Nat
  | 0 => 0
  | s + 1 => if l.getD s 0 = l.getD (s + z) 0 then upS l z s else s + 1
@[irreducible] noncomputable def upE (l : List Nat) (z : Nat) : Nat → Nat → Nat
  | 0, e => e
  | f + 1, e => if l.getD e 0 = l.getD (e - z) 0 then upE l z f (e + 1) else e
theorem seq_iff {a b : Nat} {p : Bool} (h : (Str.mk #[a] == Str.mk #[b]) = p) : p = decide (a = b) := by
  subst h
  rw [Bool.eq_iff_iff, beq_iff_eq, decide_eq_true_eq]
  simp
theorem up_go {l : List Nat} {z r : Nat} {i : Int} (h : upS l z i.toNat = r) (hp : 0 < i) (hc : (Str.mk #[l.getD (i - 1).toNat 0] == Str.mk #[l.getD (i - 1 + z).toNat 0]) = true) : upS l z (i - 1).toNat = r := by
  have e := of_decide_eq_true (seq_iff hc).symm
  obtain ⟨k, rfl⟩ : ∃ k : Nat, i = (k : Int) + 1 := ⟨(i - 1).toNat, by omega⟩
  have e1 : ((k : Int) + 1).toNat = k + 1 := by omega
  have e2 : ((k : Int) + 1 - 1).toNat = k := by omega
  have e3 : ((k : Int) + 1 - 1 + z).toNat = k + z := by omega
  rw [e2, e3] at e
  rw [e1, upS, if_pos e] at h
  rw [e2]; exact h
theorem up_stop1 {l : List Nat} {z r : Nat} {i : Int} (h : upS l z i.toNat = r) (h0 : 0 ≤ i) (hp : ¬ 0 < i) : i = (r : Int) := by
  obtain rfl : i = 0 := by omega
  have e : (0 : Int).toNat = 0 := rfl
  rw [e, upS] at h
  omega
theorem up_stop2 {l : List Nat} {z r : Nat} {i : Int} (h : upS l z i.toNat = r) (hp : 0 < i) (hc : (Str.mk #[l.getD (i - 1).toNat 0] == Str.mk #[l.getD (i - 1 + z).toNat 0]) = false) : i = (r : Int) := by
  have e := of_decide_eq_false (seq_iff hc).symm
  obtain ⟨k, rfl⟩ : ∃ k : Nat, i = (k : Int) + 1 := ⟨(i - 1).toNat, by omega⟩
  have e1 : ((k : Int) + 1).toNat = k + 1 := by omega
  have e2 : ((k : Int) + 1 - 1).toNat = k := by omega
  have e3 : ((k : Int) + 1 - 1 + z).toNat = k + z := by omega
  rw [e2, e3] at e
  rw [e1, upS, if_neg e] at h
  omega
theorem dn_go {l : List Nat} {z r n : Nat} {i : Int} (h : upE l z (n - i.toNat) i.toNat = r) (h0 : 0 ≤ i) (hz : (z : Int) ≤ i) (hp : i < (n : Int)) (hc : (Str.mk #[l.getD i.toNat 0] == Str.mk #[l.getD (i - z).toNat 0]) = true) : upE l z (n - (i + 1).toNat) (i + 1).toNat = r := by
  have e := of_decide_eq_true (seq_iff hc).symm
  obtain ⟨k, rfl⟩ : ∃ k : Nat, i = (k : Int) := ⟨i.toNat, by omega⟩
  have e1 : ((k : Int)).toNat = k := by omega
  have e2 : ((k : Int) + 1).toNat = k + 1 := by omega
  have e3 : ((k : Int) - z).toNat = k - z := by omega
  rw [e1, e3] at e
  obtain ⟨f, hf⟩ : ∃ f, n - k = f + 1 := ⟨n - k - 1, by omega⟩
  rw [e1, hf, upE, if_pos e] at h
  rw [e2, show n - (k + 1) = f by omega]; exact h
theorem dn_stop1 {l : List Nat} {z r n : Nat} {i : Int} (h : upE l z (n - i.toNat) i.toNat = r) (h0 : 0 ≤ i) (hp : ¬ i < (n : Int)) : i = (r : Int) := by
  have e : n - i.toNat = 0 := by omega
  rw [e, upE] at h
  omega
theorem dn_stop2 {l : List Nat} {z r n : Nat} {i : Int} (h : upE l z (n - i.toNat) i.toNat = r) (h0 : 0 ≤ i) (hz : (z : Int) ≤ i) (hp : i < (n : Int)) (hc : (Str.mk #[l.getD i.toNat 0] == Str.mk #[l.getD (i - z).toNat 0]) = false) : i = (r : Int) := by
  have e := of_decide_eq_false (seq_iff hc).symm
  obtain ⟨k, rfl⟩ : ∃ k : Nat, i = (k : Int) := ⟨i.toNat, by omega⟩
  have e1 : ((k : Int)).toNat = k := by omega
  have e3 : ((k : Int) - z).toNat = k - z := by omega
  rw [e1, e3] at e
  obtain ⟨f, hf⟩ : ∃ f, n - k = f + 1 := ⟨n - k - 1, by omega⟩
  rw [e1, hf, upE, if_neg e] at h
  omega
theorem ends_spec (dp un : Nat) (gd : Option (List Code)) (cn : Str) (cs : Scope) (a : Addr) (ccd : Value) (cl : List (Str × Addr)) (outer : List Env) (A₀ : Around) (base h₀ : Heap) (L : Addr) (m : Str → Option Value) (news : List (Addr × Obj)) (s : Shared) (x : Str) (b e z : Nat) (t tb te tz : Tok) (Q E : Value → Shared → Prop)
   (B : Below A₀ base outer h₀) (F : Fr h₀ L s.heap m) (X : (Kf w.params).In h₀) (N : News h₀ L s.heap news) (T : Top vw (looseW vw lz) mean mg mb h₀) (hk : cs.kind = .function) (hd : dp + 2 < recursionLimit) (hu : un + 16 < cLine) (hx : x.cps.size ≤ 64) (hz : 1 ≤ z) (hbe : b + z = e) (hel : e ≤ x.cps.size)
   (hret : ∀ (t1 t2 : Tok) (n9 : Nat) (a9 : Addr) (h' : Heap) (tk' : Nat), (∀ p ∈ news, p.1 < a9) → Fr h₀ L h' m → News h₀ L h' ((a9, { cls := .type "tuple", data := .seq #[.int (upS x.cps.toList z b : Nat) t1, .int (upE x.cps.toList z (x.cps.size - e) e : Nat) t2] n9 }) :: news) → Q (.ref a9) { s with heap := h', toks := tk' }) :
   wpAny (model pw w) (ktrTop dp un gd cn cs L a ccd cl outer) (call (.ref 199) [.str x t, .int b tb, .int e te, .int z tz]) Q E s := by
  refine wpAny_call ?_
  k_dflt cell_enter
  conv in fnB _ => whnf
  k_steps
  unfold Stop
  k_while (fun _ st => 0 ≤ st ∧ st ≤ (b : Int) ∧ upS x.cps.toList z st.toNat = upS x.cps.toList z b) (fun _ st => st.toNat) "start"
  k_steps
  · (rename News _ _ _ _ => nE')
    refine ksw_end ⟨_, _⟩ (by with_reducible assumption) nE' (by kst_in) (by kst_facts) (by kst_all) (by ksw_same) ⟨by dsimp only; omega, by dsimp only; omega, up_go (by with_reducible assumption) (by with_reducible assumption) (by with_reducible assumption)⟩ (by dsimp only; omega)
  all_goals (
    first | (have hS := up_stop1 (by with_reducible assumption) (by with_reducible assumption) (by with_reducible assumption)) | (have hS := up_stop2 (by with_reducible assumption) (by with_reducible assumption) (by with_reducible assumption))
    subst hS
    unfold Stop
    k_while (fun _ st => (e : Int) ≤ st ∧ st ≤ (x.cps.size : Int) ∧ upE x.cps.toList z (x.cps.size - st.toNat) st.toNat = upE x.cps.toList z (x.cps.size - e) e) (fun _ st => x.cps.size - st.toNat) "end"
    k_steps
    · (rename News _ _ _ _ => nE')
      refine ksw_end ⟨_, _⟩ (by with_reducible assumption) nE' (by kst_in) (by kst_facts) (by kst_all) (by ksw_same) ⟨by dsimp only; omega, by dsimp only; omega, dn_go (by with_reducible assumption) (by omega) (by omega) (by with_reducible assumption) (by with_reducible assumption)⟩ (by dsimp only; omega)
    all_goals (
      first | (have hD := dn_stop1 (by with_reducible assumption) (by omega) (by with_reducible assumption)) | (have hD := dn_stop2 (by with_reducible assumption) (by omega) (by omega) (by with_reducible assumption) (by with_reducible assumption))
      subst hD
      exact hret _ _ _ _ _ _ (by assumption) (by assumption) (by assumption)))
end Mine
end SecEnds
set_option maxRecDepth 100000
set_option maxHeartbeats 8000000
set_option Elab.async false
set_option linter.unusedVariables false
set_option linter.unusedSimpArgs false
open PySem PySem.W PySem.Calls PyProof.Rows PySem.Spec
noncomputable section SecLoops
namespace Mine
variable {w : World} {mean : ExcName → Option Value} {mg mb : Str → Option Value}
theorem regLoops : Kf = Kf ∧ PySem.Challenge.rw_xn0003_01 = PySem.Challenge.rw_xn0003_01 := by
  k_fill
  try (walk1; fail "looked")
  exact ⟨rfl, rfl⟩
section
variable {prog : Program} {w : World} {A : Around} {E : Value → Shared → Prop} {s : Shared} {env : Env} {h₀ : Heap} {L : Addr} {target iter : Expr} {body : List Stmt} {pos : Pos} {Q : Flow → Shared → Prop}
/-- a loop's run, whatever its target is -/
noncomputable def LoopT (prog : Program) (w : World) (A : Around) (env : Env) (target : Expr) (body : List Stmt) (Q : Flow → Shared → Prop) (E : Value → Shared → Prop) (it : Value) (s₂ : Shared) : Prop :=
  codeAny (model prog w) A (.forLoop target it body [] env) (fun r s' => match r with | .ok f => Q f s' | .error e => cameBackBy (model prog w) A env E e s') s₂
theorem For_T (h : wpAny (model prog w) A (eval iter env) (fun xv s₁ => wpAny (model prog w) A (pyIter xv) (fun it s₂ => LoopT prog w A env target body Q E it s₂) E s₁) E s)
    (hs : ∀ x, foldedSetIterable iter env x = pure x) : wpAny (model prog w) A (exec (.For target iter body [] pos) env) Q E s := wpAny_For h hs
/-- a turn's end: the iterator q stands, the rest is of J -/
noncomputable def TurnT (h₀ : Heap) (L : Addr) (J : (Str → Option Value) → List (Addr × Obj) → Prop) (q : Addr × Obj) (s₁ : Shared) (Q : Flow → Shared → Prop) (f : Flow) (s₂ : Shared) : Prop :=
  match f with
  | .ret v => Q (.ret v) s₂
  | .brk => Q .next s₂
  | _ => ∃ h' tk m' nx, s₂ = { s₁ with heap := h', toks := tk } ∧ Fr h₀ L h' m' ∧ News h₀ L h' (q :: nx) ∧ (∀ p ∈ nx, p.1 ≠ q.1) ∧ J m' nx
theorem TurnT.next {J : (Str → Option Value) → List (Addr × Obj) → Prop} {q : Addr × Obj} {s₁ : Shared} {m' : Str → Option Value} {nx all : List (Addr × Obj)} {h' : Heap} {tk : Nat} (F : Fr h₀ L h' m') (N : News h₀ L h' all) (hq : q ∈ all) (hs : ∀ p ∈ nx, p ∈ all)
    (hne : ∀ p ∈ nx, p.1 ≠ q.1) (hj : J m' nx) : TurnT h₀ L J q s₁ Q .next { s₁ with heap := h', toks := tk } :=
  ⟨h', tk, m', nx, rfl, F, fun p hp => (List.mem_cons.mp hp).elim (fun e => e ▸ N q hq) fun h => N p (hs p h), hne, hj⟩
theorem TurnT.cont {J : (Str → Option Value) → List (Addr × Obj) → Prop} {q : Addr × Obj} {s₁ : Shared} {m' : Str → Option Value} {nx all : List (Addr × Obj)} {h' : Heap} {tk : Nat} (F : Fr h₀ L h' m') (N : News h₀ L h' all) (hq : q ∈ all) (hs : ∀ p ∈ nx, p ∈ all)
    (hne : ∀ p ∈ nx, p.1 ≠ q.1) (hj : J m' nx) : TurnT h₀ L J q s₁ Q .cont { s₁ with heap := h', toks := tk } :=
  ⟨h', tk, m', nx, rfl, F, fun p hp => (List.mem_cons.mp hp).elim (fun e => e ▸ N q hq) fun h => N p (hs p h), hne, hj⟩
theorem loop_core {I : Addr} {fp : List Addr} {n : Nat} {P : Nat → Value → Prop} {St : Nat → Heap → Prop} {m : Str → Option Value} {news : List (Addr × Obj)} (ob : Addr → Obj)
    (W : Walks prog w A I fp [I] n P St) (hI0 : h₀.get? I = none) (hIL : I ≠ L) (hnw : ∀ p ∈ news, p.1 ≠ I) (hst : St 0 s.heap) (F : Fr h₀ L s.heap m) (N : News h₀ L s.heap news)
    (hobj : ∀ i h, St i h → ∃ o, h.get? I = some o)
    (hgo : ∀ i (s' : Shared) v (Q' : Unit → Shared → Prop) (E' : Value → Shared → Prop), St i s'.heap → Q' () s' → wpAny (model prog w) A (letOwnedTupleGo target (.ref I) v) Q' E' s')
    (J : Nat → (Str → Option Value) → List (Addr × Obj) → Prop) (h0 : J 0 m news)
    (hfp : ∀ i m nx h, J i m nx → Fr h₀ L h m → News h₀ L h nx → ∀ b ∈ fp, b ≠ I → h.get? b = some (ob b))
    (turn : ∀ i v m₁ nx h tk o, i < n → P i v → J i m₁ nx → (∀ p ∈ nx, p.1 ≠ I) → Fr h₀ L h m₁ → News h₀ L h ((I, o) :: nx) →
      wpAny (model prog w) A (assign target env v) (fun _ s₂ => wpAny (model prog w) A (execs body env) (TurnT h₀ L (J (i + 1)) (I, o) { s with heap := h, toks := tk } Q) E s₂) E { s with heap := h, toks := tk })
    (done : ∀ m₁ nx h tk, J n m₁ nx → Fr h₀ L h m₁ → News h₀ L h nx → Q .next { s with heap := h, toks := tk })
    (hE : PassesOwn (model prog w) A env E) :
    LoopT prog w A env target body Q E (.ref I) s := by
  refine codeAny_forLoop_any
    (fun k s' => ∃ h' tk m' nx i, s' = { s with heap := h', toks := tk } ∧ St i h' ∧ Fr h₀ L h' m' ∧ News h₀ L h' nx ∧ (∀ p ∈ nx, p.1 ≠ I) ∧ J i m' nx ∧ i ≤ n ∧ k = n + 1 - i) ?_ (n + 1)
    ⟨s.heap, s.toks, m, news, 0, rfl, hst, F, N, hnw, h0, Nat.zero_le _, rfl⟩
  rintro k s' ⟨h', tk, m', nx, i, rfl, hst', F', N', hnw', hJ, hi, rfl⟩
  have next : ∀ h₁ : Heap, (∀ b o, b ∉ [I] → h'.get? b = some o → h₁.get? b = some o) → Fr h₀ L h₁ m' ∧ News h₀ L h₁ nx := fun h₁ hk₁ =>
    ⟨⟨F'.ns.at' fun o e => hk₁ _ o (by simpa using Ne.symm hIL) e, fun b o e => hk₁ b o (fun q => by rw [List.mem_singleton.mp q, hI0] at e; cases e) (F'.keep b o e), F'.above⟩,
      fun p hp => ⟨hk₁ _ _ (by simpa using hnw' p hp) (N' p hp).1, (N' p hp).2⟩⟩
  by_cases hlt : i < n
  · refine W.item i _ _ _ hlt hst' fun v h₁ tk₁ hP hst₁ hk₁ => ?_
    obtain ⟨F₁, N₁⟩ := next h₁ hk₁
    obtain ⟨o, ho⟩ := hobj _ _ hst₁
    refine hgo (i + 1) _ v _ _ hst₁ ?_
    have N₂ : News h₀ L h₁ ((I, o) :: nx) := fun p hp => (List.mem_cons.mp hp).elim (fun e => e ▸ ⟨ho, hIL, hI0⟩) fun h => N₁ p h
    have hset : ∀ m₂ nx₂ h₂, Fr h₀ L h₂ m₂ → News h₀ L h₂ ((I, o) :: nx₂) → J (i + 1) m₂ nx₂ → St (i + 1) h₂ := by
      intro m₂ nx₂ h₂ F₂ N₂' hJ₂
      refine W.frame _ _ _ hst₁ fun b hb o' e => ?_
      by_cases hbI : b = I
      · rw [hbI] at e ⊢
        rw [ho] at e
        rw [← Option.some.inj e]
        exact (N₂' (I, o) (.head _)).1
      · have e1 := hfp _ _ _ _ hJ F₁ N₁ b hb hbI
        have e2 := hfp _ _ _ _ hJ₂ F₂ (fun p hp => N₂' p (.tail _ hp)) b hb hbI
        rw [e1] at e
        rw [e2, ← Option.some.inj e]
    refine wpAny_mono (turn i v m' nx h₁ tk₁ o hlt hP hJ hnw' F₁ N₂) (fun _ s₂ h₂ => wpAny_mono (wpAny_passesOwn hE h₂) (fun f s₃ h₃ => ?_) fun _ _ e => e) hE
    cases f with
    | ret v => exact h₃
    | brk => exact h₃
    | next =>
      obtain ⟨h₃', tk₃, m₂, nx₂, rfl, F₃, N₃, ha₃, hJ₃⟩ := h₃
      exact ⟨n + 1 - (i + 1), by omega, h₃', tk₃, m₂, nx₂, i + 1, rfl, hset _ _ _ F₃ N₃ hJ₃, F₃, fun p hp => N₃ p (.tail _ hp), ha₃, hJ₃, hlt, rfl⟩
    | cont =>
      obtain ⟨h₃', tk₃, m₂, nx₂, rfl, F₃, N₃, ha₃, hJ₃⟩ := h₃
      exact ⟨n + 1 - (i + 1), by omega, h₃', tk₃, m₂, nx₂, i + 1, rfl, hset _ _ _ F₃ N₃ hJ₃, F₃, fun p hp => N₃ p (.tail _ hp), ha₃, hJ₃, hlt, rfl⟩
  · have hin : i = n := by omega
    subst hin
    refine W.done _ _ _ hst' fun h₁ tk₁ hk₁ => wpAny_execs_nil ?_
    obtain ⟨F₁, N₁⟩ := next h₁ hk₁
    exact done m' nx h₁ tk₁ hJ F₁ N₁
theorem iter_rangeT {r : Addr} {a₀ b₀ : Int} {t₀ u₀ v₀ : Tok} {n : Nat} {m₀ : Str → Option Value} {news : List (Addr × Obj)} {x : Str} {px : Pos} (J : Nat → (Str → Option Value) → List (Addr × Obj) → Prop)
    (hh : A.handled = none) (hr : IsRange s.heap r a₀ b₀ 1 t₀ u₀ v₀) (hsmall : Builtin.Range.small a₀ b₀ 1 = true) (hsz : Builtin.Range.rangeSize a₀ b₀ 1 = (n : Int)) (F : Fr h₀ L s.heap m₀) (N : News h₀ L s.heap news) (h0 : J 0 m₀ news)
    (turn : ∀ i t m₁ nx h tk I o, i < n → J i m₁ nx → (∀ p ∈ nx, p.1 ≠ I) → Fr h₀ L h m₁ → News h₀ L h ((I, o) :: nx) →
      wpAny (model prog w) A (assign (.Name x px) env (.int (a₀ + (i : Int)) t)) (fun _ s₂ => wpAny (model prog w) A (execs body env) (TurnT h₀ L (J (i + 1)) (I, o) { s with heap := h, toks := tk } Q) E s₂) E { s with heap := h, toks := tk })
    (done : ∀ m₁ nx h tk, J n m₁ nx → Fr h₀ L h m₁ → News h₀ L h nx → Q .next { s with heap := h, toks := tk })
    (hE : PassesOwn (model prog w) A env E := by passes_own) :
    wpAny (model prog w) A (pyIter (.ref r)) (fun it s₂ => LoopT prog w A env (.Name x px) body Q E it s₂) E s := by
  refine wpAny_pyIter_range hr hsmall ?_
  have W : Walks prog w A s.heap.objs.size [s.heap.objs.size] [s.heap.objs.size] n (fun i v => i < n ∧ ∃ t, v = .int (a₀ + i * 1) t)
      (fun i h => IsRangeIter h s.heap.objs.size (a₀ + (i : Nat) * 1) ((n : Int) - (i : Nat)) 1) := (Walks.range hh _ a₀ 1 n).bound
  refine loop_core (fun _ => default) W (next_is_new F) (Nat.ne_of_gt F.ns.lt) (fun p hp => Nat.ne_of_lt (Heap.lt_size (N p hp).1)) (by show IsRangeIter _ _ _ _ _; rw [hsz]; simpa using Heap.get?_push_size _ rfl) (F.push _) (fun p hp => ⟨Heap.get?_push_of_some _ (N p hp).1, (N p hp).2⟩)
    (fun i h st => ⟨_, st⟩) (fun i s' v Q' E' _ hq => wpAny_pure hq) J h0 (fun _ _ _ _ _ _ _ b hb hne => absurd (List.mem_singleton.mp hb) hne) ?_ ?_ hE
  · rintro i v m₁ nx h tk o hi ⟨_, t, rfl⟩ hJ hne F₁ N₁
    have e1 : a₀ + (i : Int) * 1 = a₀ + (i : Int) := by omega
    rw [e1]
    exact turn i t m₁ nx h tk _ o hi hJ hne F₁ N₁
  · exact done
theorem iter_listT {l : Addr} {vs : List Value} {nn : Nat} {m₀ : Str → Option Value} {news : List (Addr × Obj)} (J : Nat → (Str → Option Value) → List (Addr × Obj) → Prop)
    (hh : A.handled = none) (hl : (l, listOf vs.toArray nn) ∈ news) (hJl : ∀ i m nx, J i m nx → (l, listOf vs.toArray nn) ∈ nx) (F : Fr h₀ L s.heap m₀) (N : News h₀ L s.heap news) (h0 : J 0 m₀ news)
    (turn : ∀ i v m₁ nx h tk I o, vs[i]? = some v → J i m₁ nx → (∀ p ∈ nx, p.1 ≠ I) → Fr h₀ L h m₁ → News h₀ L h ((I, o) :: nx) →
      wpAny (model prog w) A (assign target env v) (fun _ s₂ => wpAny (model prog w) A (execs body env) (TurnT h₀ L (J (i + 1)) (I, o) { s with heap := h, toks := tk } Q) E s₂) E { s with heap := h, toks := tk })
    (done : ∀ m₁ nx h tk, J vs.length m₁ nx → Fr h₀ L h m₁ → News h₀ L h nx → Q .next { s with heap := h, toks := tk })
    (hE : PassesOwn (model prog w) A env E := by passes_own) :
    wpAny (model prog w) A (pyIter (.ref l)) (fun it s₂ => LoopT prog w A env target body Q E it s₂) E s := by
  have hol : s.heap.get? l = some (listOf vs.toArray nn) := (N _ hl).1
  have hls : s.heap.IsList l vs.toArray := ⟨_, hol, rfl, nn, rfl⟩
  have hne : l ≠ s.heap.objs.size := Nat.ne_of_lt (Heap.lt_size hol)
  refine wpAny_pyIter_list hls ?_
  have W := Walks.list (prog := prog) (w := w) hh s.heap.objs.size l hne vs.toArray
  have hlen : vs.toArray.size = vs.length := by simp
  rw [hlen] at W
  refine loop_core (fun _ => listOf vs.toArray nn) W (next_is_new F) (Nat.ne_of_gt F.ns.lt) (fun p hp => Nat.ne_of_lt (Heap.lt_size (N p hp).1)) ⟨⟨_, Heap.get?_push_size _ rfl, rfl, rfl⟩, hls.at fun o e => Heap.get?_push_of_some _ e⟩ (F.push _) (fun p hp => ⟨Heap.get?_push_of_some _ (N p hp).1, (N p hp).2⟩)
    (fun i h st => by obtain ⟨⟨o, ho, _⟩, _⟩ := st; exact ⟨o, ho⟩) (fun i s' v Q' E' st hq => letGo_listiter st.1 hq) J h0 ?_ ?_ ?_ hE
  · intro i m nx h hJ F₁ N₁ b hb hbI
    rcases List.mem_cons.mp hb with e | hb
    · exact absurd e hbI
    · rw [List.mem_singleton.mp hb]
      exact (N₁ _ (hJl _ _ _ hJ)).1
  · intro i v m₁ nx h tk o hi hP hJ hne F₁ N₁
    exact turn i v m₁ nx h tk _ o (by simpa using hP) hJ hne F₁ N₁
  · exact done
end
end Mine
end SecLoops
set_option maxRecDepth 100000
set_option maxHeartbeats 8000000
set_option Elab.async false
set_option linter.unusedVariables false
set_option linter.unusedSimpArgs false
open PySem PySem.W PySem.Calls PyProof.Rows PySem.Spec
noncomputable section SecComp
namespace Mine
variable {w : World} {mean : ExcName → Option Value} {mg mb : Str → Option Value}
theorem regComp : Kf = Kf ∧ PySem.Challenge.rw_xn0003_01 = PySem.Challenge.rw_xn0003_01 := by
  k_fill
  try (walk1; fail "looked")
  exact ⟨rfl, rfl⟩
section
open LCt LCg
variable {prog : Program} {w : World} {A : Around} {s : Shared} {h₀ : Heap} {L : Addr} {m : Str → Option Value} {env : Env}
/-- the items i, .., i + k - 1 that p takes -/
noncomputable def pick (p : Nat → Bool) (its : Array Value) (i k : Nat) : List Value := (List.range' i k).filterMap fun j => if p j then its[j]? else none
theorem comp_filter {ct elt : Expr} {x : Str} {scope : Scope} {cl : List (Str × Addr)} {ax : Addr} {its : Array Value} {Fin : List Value → List (Addr × Obj) → Prop} {news : List (Addr × Obj)} (hS : SrcAt h₀ ax its news) (p : Nat → Bool)
    (turn : ∀ i v I oI C oC D ys m₂ h tk (E' : Value → Shared → Prop) (Q' : Bool → Shared → Prop), its[i]? = some v → NsObj oC m₂ → m₂ x = some v → Fr h₀ L h m → News h₀ L h ((I, oI) :: (C, oC) :: (D, lst ys) :: news) →
      (∀ tk', Q' (p i) { s with heap := h, toks := tk' }) → wpAny (model prog w) A (isTrue ct (compEnvC scope cl C env) (eval ct (compEnvC scope cl C env))) Q' E' { s with heap := h, toks := tk })
    (el : ∀ v I oI C oC D ys m₂ h tk (E' : Value → Shared → Prop) (Q' : Value → Shared → Prop), NsObj oC m₂ → m₂ x = some v → Fr h₀ L h m → News h₀ L h ((I, oI) :: (C, oC) :: (D, lst ys) :: news) →
      (∀ tk', Q' v { s with heap := h, toks := tk' }) → wpAny (model prog w) A (eval elt (compEnvC scope cl C env)) Q' E' { s with heap := h, toks := tk }) :
    ∀ k i ys, i + k = its.size → Fin (ys ++ pick p its i k) news → CompRestT prog w A h₀ L m env ct elt x scope cl s (SrcAt h₀ ax its) (fun i v => its[i]? = some v) Fin k i ys news := by
  intro k
  induction k with
  | zero =>
    intro i ys _ hf
    rw [show pick p its i 0 = [] from rfl, List.append_nil] at hf
    exact CompRestT.zero hf
  | succ k ih =>
    intro i ys hi hf
    refine CompRestT.succ fun v I oI C oC D m₂ h tk E' hv hC hx F N off ne => ?_
    have hpick : pick p its i (k + 1) = (if p i then [v] else []) ++ pick p its (i + 1) k := by
      unfold pick
      rw [List.range'_succ, List.filterMap_cons]
      cases p i with
      | true => simp only [if_true, hv]; rfl
      | false => simp only [Bool.false_eq_true, if_false]; rfl
    rw [hpick] at hf
    refine turn i v I oI C oC D ys m₂ h tk E' _ hv hC hx F N fun tk' => ?_
    cases hp : p i with
    | true =>
      rw [hp] at hf
      simp only [if_true] at hf ⊢
      refine el v I oI C oC D ys m₂ h tk' E' _ hC hx F N fun tk'' => ?_
      refine ⟨h, tk'', news, rfl, F, N, off, hS, ih (i + 1) (ys ++ [v]) (by omega) ?_⟩
      rw [List.append_assoc]; exact hf
    | false =>
      rw [hp] at hf
      simp only [Bool.false_eq_true, if_false] at hf ⊢
      refine ⟨h, tk', news, rfl, F, N, off, hS, ih (i + 1) ys (by omega) ?_⟩
      exact hf
end
end Mine
end SecComp
set_option maxRecDepth 100000
set_option maxHeartbeats 8000000
set_option Elab.async false
set_option linter.unusedVariables false
set_option linter.unusedSimpArgs false
open PySem PySem.W PySem.Calls PyProof.Rows PySem.Spec
noncomputable section SecRepPure
namespace Mine
variable {w : World} {mean : ExcName → Option Value} {mg mb : Str → Option Value}
theorem regRepPure : Kf = Kf ∧ PySem.Challenge.rw_xn0003_01 = PySem.Challenge.rw_xn0003_01 := by
  k_fill
  try (walk1; fail "looked")
  exact ⟨rfl, rfl⟩
noncomputable abbrev Tri := Nat × Nat × Nat
noncomputable def triD (t : Tri) : Dat := .tuple [.int t.1, .int t.2.1, .int t.2.2]
@[irreducible] noncomputable def repTurn (ks : List Nat) (z : Nat) (c : List Tri × Nat) (k : Nat) : List Tri × Nat :=
  if k = ks.length - z ∨ ks.getD k 0 ≠ ks.getD (k + z) 0 then
    (if k - c.2 ≥ z ∧ c.2 ≤ k ∧ (c.1.any fun o => o.1 == c.2 && o.2.1 == k + z) = false then c.1 ++ [(c.2, k + z, z)] else c.1, k + 1)
  else c
@[irreducible] noncomputable def repSize (ks : List Nat) (told : List Tri) (z : Nat) : List Tri :=
  ((List.range (ks.length - z + 1)).foldl (repTurn ks z) (told, 0)).1
@[irreducible] noncomputable def repsN (ks : List Nat) (n : Nat) : List Tri :=
  (List.range n).foldl (fun t i => repSize ks t (i + 1)) []
theorem repTurn_len (ks : List Nat) (z : Nat) (c : List Tri × Nat) (k : Nat) : (repTurn ks z c k).1.length ≤ c.1.length + 1 := by
  unfold repTurn
  split
  · dsimp only
    split
    · rw [List.length_append]; exact Nat.le_refl _
    · exact Nat.le_succ _
  · exact Nat.le_succ _
theorem repFold_len (ks : List Nat) (z : Nat) (c : List Tri × Nat) (n : Nat) : ((List.range n).foldl (repTurn ks z) c).1.length ≤ c.1.length + n := by
  induction n with
  | zero => exact Nat.le_refl _
  | succ n ih =>
    rw [List.range_succ, List.foldl_append]
    have := repTurn_len ks z ((List.range n).foldl (repTurn ks z) c) n
    show (repTurn ks z _ n).1.length ≤ _
    omega
theorem repsN_succ (ks : List Nat) (n : Nat) : repsN ks (n + 1) = repSize ks (repsN ks n) (n + 1) := by
  unfold repsN
  rw [List.range_succ, List.foldl_append]
  rfl
theorem repsN_len (ks : List Nat) (n : Nat) : (repsN ks n).length ≤ n * (ks.length + 1) := by
  induction n with
  | zero => unfold repsN; simp
  | succ n ih =>
    rw [repsN_succ, Nat.succ_mul]
    unfold repSize
    have := repFold_len ks (n + 1) (repsN ks n, 0) (ks.length - (n + 1) + 1)
    dsimp only at this ⊢
    omega
theorem triD_ok {ds : List Tri} : ∀ d ∈ ds.map triD, kqdOk 8 d = true := by
  intro d hd
  obtain ⟨t, _, rfl⟩ := List.mem_map.mp hd
  rfl
theorem tri_at {R : List (Addr × Obj)} {vt : List Value} {ds : List Tri} {j : Nat} {v : Value} (hD : DatAll R vt (ds.map triD)) (hv : vt.toArray[j]? = some v) :
    ∃ a n t1 t2 t3, v = .ref a ∧ (a, ({ cls := .type "tuple", data := .seq [.int ((ds.getD j default).1 : Int) t1, .int ((ds.getD j default).2.1 : Int) t2, .int ((ds.getD j default).2.2 : Int) t3].toArray n } : Obj)) ∈ R := by
  have hv' : vt[j]? = some v := by simpa using hv
  have hj : j < (ds.map triD).length := by rw [← hD.length]; exact (List.getElem?_eq_some_iff.mp hv').1
  obtain ⟨v', hv2, hd⟩ := hD.get hj
  rw [hv'] at hv2
  cases hv2
  have hj2 : j < ds.length := by rw [List.length_map] at hj; exact hj
  have e : (ds.map triD)[j]'hj = triD (ds.getD j default) := by
    rw [List.getElem_map, List.getD_eq_getElem?_getD, List.getElem?_eq_getElem hj2]; rfl
  rw [e] at hd
  unfold triD at hd
  cases hd with
  | tuple hm hr =>
    cases hr with
    | cons h1 hr =>
      cases hr with
      | cons h2 hr =>
        cases hr with
        | cons h3 hr =>
          cases hr
          cases h1
          cases h2
          cases h3
          exact ⟨_, _, _, _, _, rfl, hm⟩
theorem pick_dat {R : List (Addr × Obj)} {vt : List Value} {es : List Dat} (hD : DatAll R vt es) (p : Nat → Bool) : ∀ k i, i + k = vt.length → DatAll R (pick p vt.toArray i k) ((List.range' i k).filterMap fun j => if p j then es[j]? else none) := by
  intro k
  induction k with
  | zero => intro i _; exact .nil
  | succ k ih =>
    intro i hi
    have ih := ih (i + 1) (by omega)
    have hlt : i < es.length := by rw [← hD.length]; omega
    obtain ⟨v, hv, hd⟩ := hD.get hlt
    have hv' : vt.toArray[i]? = some v := by simpa using hv
    have he : es[i]? = some (es[i]'hlt) := List.getElem?_eq_getElem hlt
    unfold pick at ih ⊢
    rw [List.range'_succ, List.filterMap_cons, List.filterMap_cons]
    cases p i with
    | true => simp only [if_true, hv', he]; exact .cons hd ih
    | false => simp only [Bool.false_eq_true, if_false]; exact ih
theorem pick_nil {ds : List Tri} {p : Nat → Bool} {f : Tri → Bool} (hp : ∀ j, p j = f (ds.getD j default)) : ((List.range' 0 ds.length).filterMap fun j => if p j then (ds.map triD)[j]? else none) = [] ↔ ds.any f = false := by
  rw [List.filterMap_eq_nil_iff, List.any_eq_false]
  constructor
  · intro h x hx hf
    obtain ⟨j, hj, rfl⟩ := List.mem_iff_getElem.mp hx
    have h1 := h j (by simp [List.mem_range', hj])
    have h2 : ds.getD j default = ds[j] := by rw [List.getD_eq_getElem?_getD, List.getElem?_eq_getElem hj]; rfl
    rw [hp, h2, hf] at h1
    simp [hj] at h1
  · intro h j hj
    have hj' : j < ds.length := by simpa [List.mem_range'] using hj
    have h2 : ds.getD j default = ds[j] := by rw [List.getD_eq_getElem?_getD, List.getElem?_eq_getElem hj']; rfl
    have h3 := h ds[j] (List.getElem_mem hj')
    rw [hp, h2, if_neg h3]
end Mine
end SecRepPure
set_option maxRecDepth 100000
set_option maxHeartbeats 8000000
set_option Elab.async false
set_option linter.unusedVariables false
set_option linter.unusedSimpArgs false
open PySem PySem.W PySem.Calls PyProof.Rows PySem.Spec
noncomputable section SecReps
namespace Mine
variable {w : World} {mean : ExcName → Option Value} {mg mb : Str → Option Value}
theorem regReps : Kf = Kf ∧ PySem.Challenge.rw_xn0003_01 = PySem.Challenge.rw_xn0003_01 := by
  k_fill
  try (walk1; fail "looked")
  exact ⟨rfl, rfl⟩
local macro_rules | `(tactic| k_ne) => `(tactic| (refine neN ?_; (try dsimp only); first | with_reducible assumption | exact Ne.symm (by with_reducible assumption) | omega))
local macro_rules | `(tactic| walk_at "exec For") => `(tactic| (k_here; (refine For_T ?_ (fun _ => rfl))))
local macro_rules | `(tactic| walk_at "eval ListComp") => `(tactic| (k_here; refine Stop.go ?_))
local macro_rules | `(tactic| walk_at "CompSrcT") => `(tactic| (k_here; refine Stop.go ?_))
local macro_rules | `(tactic| walk_at "pyIter ref") => `(tactic| (k_here; refine Stop.go ?_))
section
variable {prog : Program} {w : World} {A : Around} {E : Value → Shared → Prop} {s : Shared} {h₀ : Heap} {L l : Addr} {news : List (Addr × Obj)} {vs : List Value} {nn : Nat} {Q : Value → Shared → Prop}
theorem len_ints {k : Nat} (N : News h₀ L s.heap news) (hm : (l, listOf vs.toArray nn) ∈ news) (hs : vs.length = k) (hk : k ≤ 64) (h : Q (.int (k : Int) (s.toks + 1)) { s with toks := s.toks + 1 + 1 }) :
    wpAny (model prog w) A (call (.builtin "len") [.ref l]) Q E s := by
  have hl : s.heap.IsList l vs.toArray := ⟨_, (N _ hm).1, rfl, nn, rfl⟩
  have e : vs.toArray.size = k := by rw [List.size_toArray, hs]
  exact len_list hl (by rw [e]; omega) (by rw [e]; exact h)
theorem item_ints {value slice : Expr} {ks : List Nat} {k : Int} {u : Tok} (N : News h₀ L s.heap news) (hm : (l, listOf vs.toArray nn) ∈ news) (hi : IntsAre vs (ks.map Int.ofNat)) (h0 : 0 ≤ k) (h1 : k < (ks.length : Int)) (hb : ks.length ≤ 64)
    (h : ∀ t, Q (.int ((ks.getD k.toNat 0 : Nat) : Int) t) s)
    (hs : subscripted slice false (.ref l) (.int k u) = operate [.ref l, .int k u] (getItem (.ref l) (.int k u)) := by with_unfolding_all rfl) :
    wpAny (model prog w) A (subscriptTail value slice (.ref l) (.int k u)) Q E s := by
  have hl : s.heap.IsList l vs.toArray := ⟨_, (N _ hm).1, rfl, nn, rfl⟩
  have hk : k.toNat < ks.length := by omega
  obtain ⟨t, hx⟩ := hi.get k.toNat ((ks.getD k.toNat 0 : Nat) : Int) (by simp [hk])
  exact tail_any hl.typeIs slot_list_getitem.lookup (wpAny_getItem_list hl h0 (by omega) (by simpa using hx) (h t)) hs
end
local macro_rules | `(tactic| walk_at "call builtin:len") => `(tactic| (k_here; (with_reducible show wpAny _ _ (call (Value.builtin "len") [Value.ref _]) _ _ _); k_dflt (refine' len_ints ?k1 ?k2 ?k3 ?k4 ?_; (case k1 => k_asm); (case k2 => kst_mem); (case k3 => assumption); (case k4 => omega); k_whole)))
local macro_rules | `(tactic| walk_at "my item") => `(tactic| (k_here; (with_reducible show wpAny _ _ (subscriptTail _ _ (Value.ref _) (Value.int _ _)) _ _ _); (rename IntsAre _ _ => iI9); (with_unfolding_all refine' item_ints ?k1 ?k2 iI9 ?k4 ?k5 ?k6 ?_ ?k7; (case k1 => k_asm); (case k2 => kst_mem); (case k4 => omega); (case k5 => omega); (case k6 => omega); (case k7 => with_unfolding_all rfl); k_whole); intro t9))
local macro_rules | `(tactic| walk_at "subscriptTail") => `(tactic| walk_at "my item")
local macro_rules | `(tactic| walk_at "subscriptTail Name Name ref int") => `(tactic| walk_at "my item")
local macro_rules | `(tactic| walk_at "subscriptTail Name BinOp ref int") => `(tactic| walk_at "my item")
local macro_rules | `(tactic| walk_at "subscriptTail Name Constant ref int") => `(tactic| (k_here; (with_reducible show wpAny _ _ (subscriptTail _ _ (Value.ref _) (Value.int _ _)) _ _ _); k_dflt (refine' item_tupleT ?t ?a ?b ?c ?d ?_; (case t => exact News.isTup (by k_asm) (by kst_mem)); (case a => decide); (case b => decide); (case c => rfl); (case d => rfl); k_whole)))
theorem q_of {Q : Bool → Shared → Prop} {b c : Bool} {s : Shared} (h : Q b s) (e : b = c) : Q c s := e ▸ h
theorem b_tt {x st y a b : Nat} (h1 : (x : Int) = st) (h2 : (y : Int) = 0 + (a : Int) + (1 + (b : Int))) : (x == st && y == a + (b + 1)) = true := by
  rw [Bool.and_eq_true, beq_iff_eq, beq_iff_eq]; omega
theorem b_tf {x st y a b : Nat} (h1 : (x : Int) = st) (h2 : (y : Int) ≠ 0 + (a : Int) + (1 + (b : Int))) : (x == st && y == a + (b + 1)) = false := by
  rw [Bool.and_eq_false_iff, beq_eq_false_iff_ne, beq_eq_false_iff_ne]; omega
theorem b_f {x st y a b : Nat} (h1 : (x : Int) ≠ st) : (x == st && y == a + (b + 1)) = false := by
  rw [Bool.and_eq_false_iff, beq_eq_false_iff_ne]; omega
local macro_rules | `(tactic| walk_at "compareOp Eq ref ref") => `(tactic| (k_here; refine Stop.go ?_))
theorem pick_ok {es : List Dat} {n : Nat} {p : Nat → Bool} (h : ∀ d ∈ es, kqdOk 8 d = true) : ∀ d ∈ (List.range' 0 n).filterMap (fun j => if p j then es[j]? else none), kqdOk 8 d = true := by
  intro d hd
  obtain ⟨j, _, hj⟩ := List.mem_filterMap.mp hd
  split at hj
  · exact h d (List.mem_of_getElem? hj)
  · cases hj
theorem eq_nilB {prog : Program} {w : World} {A : Around} {E : Value → Shared → Prop} {s : Shared} {h₀ : Heap} {L a b : Addr} {news n₁ : List (Addr × Obj)} {oa ob : Obj} {xs : List Value} {ka kb : Nat} {ds : List Dat} {Q : Value → Shared → Prop} {bb : Bool}
    (N : News h₀ L s.heap news) (ma : (a, oa) ∈ news) (ca : oa.cls = .type "list") (da : oa.data = .seq xs.toArray ka) (Da : DatAll n₁ xs ds) (sa : ∀ p ∈ n₁, p ∈ news)
    (mb : (b, ob) ∈ news) (cb : ob.cls = .type "list") (db : ob.data = .seq ([] : List Value).toArray kb) (ha : ∀ d ∈ ds, kqdOk 8 d = true) (hu : A.units + 64 < cLine) (hbb : ds = [] ↔ bb = true) (h : Q (.bool bb) s) : wpAny (model prog w) A (compareOp .Eq (.ref a) (.ref b)) Q E s := by
  refine kqd_eq N ma ca da Da sa mb cb db (n₂ := []) .nil (fun _ hp => nomatch hp) ha (fun _ hp => nomatch hp) hu ?_
  have e : ∀ (inst : Decidable (ds = [])), @decide (ds = []) inst = bb := fun inst => by
    rw [Bool.eq_iff_iff, decide_eq_true_iff, hbb]
  rw [e]
  exact h
theorem neH {q : Addr × Obj} {R : List (Addr × Obj)} {I : Addr} (h : ∀ p ∈ q :: R, p.1 ≠ I) : @Ne Nat q.1 I := h q (.head _)
theorem neT {q : Addr × Obj} {R : List (Addr × Obj)} {I : Addr} (h : ∀ p ∈ q :: R, p.1 ≠ I) : ∀ p ∈ R, p.1 ≠ I := fun p hp => h p (.tail _ hp)
theorem offI {R : List (Addr × Obj)} {I : Addr} {adr : List Addr} (h : OwnOff R adr) (h2 : ∀ p ∈ R, p.1 ≠ I) : OwnOff R (I :: adr) := fun p hp b hb => (List.mem_cons.mp hb).elim (fun e => e ▸ h2 p hp) fun hb => h p hp b hb
theorem offLt {R : List (Addr × Obj)} {D : Addr} {adr : List Addr} (h : AllLt D R) (h2 : ∀ b ∈ adr, b = D ∨ D < b) : OwnOff R adr := fun p hp b hb e => by
  have h3 := ktn_ltOf h p hp
  rcases h2 b hb with h4 | h4
  · rw [← h4, ← e] at h3; exact Nat.lt_irrefl _ h3
  · rw [← e] at h4; exact Nat.lt_irrefl _ (Nat.lt_trans h3 h4)
/-- the outer loop's state -/
noncomputable def repJ (ks : List Nat) (nw : List (Addr × Obj)) (b₀ : Addr) (aT cK cS cZ : Addr) (mF : Str → Option Value) (i : Nat) (m : Str → Option Value) (nx : List (Addr × Obj)) : Prop :=
  m = mF ∧ ∃ (vs : List Value) (n : Nat) (oK oS oZ : Obj) (R : List (Addr × Obj)), nx = (aT, listOf vs.toArray n) :: (cK, oK) :: (cS, oS) :: (cZ, oZ) :: R ∧ OwnOff R [aT, cK, cS, cZ] ∧
    (∃ v, oK.data = .cell v) ∧ (∃ v, oS.data = .cell v) ∧ (∃ v, oZ.data = .cell v) ∧ ∃ tl, R = tl ++ nw ∧ (∀ p ∈ tl, b₀ < p.1) ∧ DatAll tl vs ((repsN ks i).map triD)
/-- the inner loop's state -/
noncomputable def repJ2 (ks : List Nat) (nw : List (Addr × Obj)) (b₀ : Addr) (q : Addr × Obj) (aT cK cS cZ : Addr) (mF : Str → Option Value) (i₀ : Nat) (told : List Tri) (i : Nat) (m : Str → Option Value) (nx : List (Addr × Obj)) : Prop :=
  m = mF ∧ ∃ (vs : List Value) (n : Nat) (oK oS oZ : Obj) (R : List (Addr × Obj)) (ds : List Tri) (st : Nat), nx = q :: (aT, listOf vs.toArray n) :: (cK, oK) :: (cS, oS) :: (cZ, oZ) :: R ∧ OwnOff R [q.1, aT, cK, cS, cZ] ∧
    (∃ v, oK.data = .cell v) ∧ (∃ t, oS.data = .cell (some (.int (st : Int) t))) ∧ (∃ t, oZ.data = .cell (some (.int (1 + (i₀ : Int)) t))) ∧ (ds, st) = (List.range i).foldl (repTurn ks (i₀ + 1)) (told, 0) ∧ st ≤ i ∧
    ∃ tl, R = tl ++ nw ∧ (∀ p ∈ tl, b₀ < p.1) ∧ DatAll tl vs (ds.map triD)
theorem rep_close {h₀ h' : Heap} {L : Addr} {all : List (Addr × Obj)} {Q : Flow → Shared → Prop} {s₁ : Shared} {tk : Nat} {ks : List Nat} {nw tl : List (Addr × Obj)} {b₀ : Addr} {q q2 : Addr × Obj} {aT cK cS cZ : Addr} {mF : Str → Option Value} {i₀ i : Nat} {told : List Tri}
    {vs : List Value} {n : Nat} {oK oS oZ : Obj} {R : List (Addr × Obj)} {ds : List Tri} {st : Nat} {vK : Option Value} {j : Int} {ts tz : Tok}
    (F : Fr h₀ L h' mF) (N : News h₀ L h' all) (hq : q2 ∈ all) (h1 : q ∈ all) (h2 : (aT, listOf vs.toArray n) ∈ all) (h3 : (cK, oK) ∈ all) (h4 : (cS, oS) ∈ all) (h5 : (cZ, oZ) ∈ all) (h6 : ∀ p ∈ R, p ∈ all)
    (n1 : @Ne Nat q.1 q2.1) (n2 : @Ne Nat aT q2.1) (n3 : @Ne Nat cK q2.1) (n4 : @Ne Nat cS q2.1) (n5 : @Ne Nat cZ q2.1) (off : OwnOff R [q2.1, q.1, aT, cK, cS, cZ])
    (dK : oK.data = .cell vK) (dS : oS.data = .cell (some (.int j ts))) (dZ : oZ.data = .cell (some (.int (1 + (i₀ : Int)) tz))) (hR : R = tl ++ nw) (hlt : ∀ p ∈ tl, b₀ < p.1) (hD : DatAll tl vs (ds.map triD)) (hj : j = (st : Int))
    (hst : (ds, st) = (List.range i).foldl (repTurn ks (i₀ + 1)) (told, 0)) (hle : st ≤ i) : TurnT h₀ L (repJ2 ks nw b₀ q aT cK cS cZ mF i₀ told i) q2 s₁ Q .next { s₁ with heap := h', toks := tk } := by
  subst hj
  refine TurnT.next F N hq (nx := q :: (aT, listOf vs.toArray n) :: (cK, oK) :: (cS, oS) :: (cZ, oZ) :: R) ?_ ?_ ⟨rfl, vs, n, oK, oS, oZ, R, ds, st, rfl, fun p hp b hb => off p hp b (.tail _ hb), ⟨_, dK⟩, ⟨_, dS⟩, ⟨_, dZ⟩, hst, hle, tl, hR, hlt, hD⟩
  · simp only [List.forall_mem_cons]
    exact ⟨h1, h2, h3, h4, h5, h6⟩
  · simp only [List.forall_mem_cons]
    exact ⟨n1, n2, n3, n4, n5, fun p hp => off p hp _ (.head _)⟩
theorem ne_of_int {ks : List Nat} {a b : Nat} (h : ((ks.getD (0 + (a : Int)).toNat 0 : Nat) : Int) ≠ ((ks.getD (0 + (a : Int) + (1 + (b : Int))).toNat 0 : Nat) : Int)) : ks.getD a 0 ≠ ks.getD (a + (b + 1)) 0 := by
  have e1 : (0 + (a : Int)).toNat = a := by omega
  have e2 : (0 + (a : Int) + (1 + (b : Int))).toNat = a + (b + 1) := by omega
  rw [e1, e2] at h
  exact fun e => h (by rw [e])
theorem eq_of_int {ks : List Nat} {a b : Nat} (h : ((ks.getD (0 + (a : Int)).toNat 0 : Nat) : Int) = ((ks.getD (0 + (a : Int) + (1 + (b : Int))).toNat 0 : Nat) : Int)) : ks.getD a 0 = ks.getD (a + (b + 1)) 0 := by
  have e1 : (0 + (a : Int)).toNat = a := by omega
  have e2 : (0 + (a : Int) + (1 + (b : Int))).toNat = a + (b + 1) := by omega
  rw [e1, e2] at h
  exact_mod_cast h
theorem rt_skip {ks : List Nat} {z k st : Nat} {ds : List Tri} {c : List Tri × Nat} (hst : (ds, st) = (List.range k).foldl (repTurn ks z) c) (he : k = ks.length - z ∨ ks.getD k 0 ≠ ks.getD (k + z) 0)
    (h : ¬ (k - st ≥ z ∧ st ≤ k ∧ (ds.any fun o => o.1 == st && o.2.1 == k + z) = false)) : (ds, k + 1) = (List.range (k + 1)).foldl (repTurn ks z) c := by
  rw [List.range_succ, List.foldl_append, ← hst]
  show _ = repTurn ks z (ds, st) k
  unfold repTurn
  rw [if_pos he, if_neg h]
theorem rt_add {ks : List Nat} {z k st : Nat} {ds : List Tri} {c : List Tri × Nat} (hst : (ds, st) = (List.range k).foldl (repTurn ks z) c) (he : k = ks.length - z ∨ ks.getD k 0 ≠ ks.getD (k + z) 0)
    (h : k - st ≥ z ∧ st ≤ k ∧ (ds.any fun o => o.1 == st && o.2.1 == k + z) = false) : (ds ++ [(st, k + z, z)], k + 1) = (List.range (k + 1)).foldl (repTurn ks z) c := by
  rw [List.range_succ, List.foldl_append, ← hst]
  show _ = repTurn ks z (ds, st) k
  unfold repTurn
  rw [if_pos he, if_pos h]
theorem rt_keep {ks : List Nat} {z k st : Nat} {ds : List Tri} {c : List Tri × Nat} (hst : (ds, st) = (List.range k).foldl (repTurn ks z) c) (he : ¬ (k = ks.length - z ∨ ks.getD k 0 ≠ ks.getD (k + z) 0)) : (ds, st) = (List.range (k + 1)).foldl (repTurn ks z) c := by
  rw [List.range_succ, List.foldl_append, ← hst]
  show _ = repTurn ks z (ds, st) k
  unfold repTurn
  rw [if_neg he]
theorem off_cons {R : List (Addr × Obj)} {D : Addr} {o : Obj} {adr : List Addr} (h : ∀ b ∈ adr, @Ne Nat D b) (h2 : OwnOff R adr) : OwnOff ((D, o) :: R) adr := fun p hp b hb => (List.mem_cons.mp hp).elim (fun e => by rw [e]; exact h b hb) fun hp => h2 p hp b hb
theorem tri_snoc {R : List (Addr × Obj)} {vt : List Value} {ds : List Tri} {D : Addr} {n : Nat} {x y z : Int} {t1 t2 t3 : Tok} {t : Tri} (hD : DatAll R vt (ds.map triD)) (h1 : x = (t.1 : Int)) (h2 : y = (t.2.1 : Int)) (h3 : z = (t.2.2 : Int)) :
    DatAll ((D, ({ cls := .type "tuple", data := .seq [.int x t1, .int y t2, .int z t3].toArray n } : Obj)) :: R) (vt ++ [.ref D]) ((ds ++ [t]).map triD) := by
  subst h1 h2 h3
  rw [List.map_append]
  refine DatAll.append (DatAll.mono (fun p hp => .tail _ hp) hD) (.cons ?_ .nil)
  exact .tuple (.head _) (.cons (.int _ _) (.cons (.int _ _) (.cons (.int _ _) .nil)))
theorem of_ltN {a b : Addr} (h : @LT.lt Nat _ a b) : a < b := h
theorem if_or {M : Model} {A : Around} {E : Value → Shared → Prop} {s : Shared} {env : Env} {test : Expr} {body orelse : List Stmt} {pos : Pos} {Q : Flow → Shared → Prop} (C : Prop)
    (ht : wpAny M A (isTrue test env (eval test env)) (fun b s' => (∃ tk', s' = { s with toks := tk' }) ∧ (b = true → C) ∧ (b = false → ¬ C)) E s)
    (hb : C → ∀ tk', wpAny M A (execs body env) Q E { s with toks := tk' }) (ho : ¬ C → ∀ tk', wpAny M A (execs orelse env) Q E { s with toks := tk' }) :
    wpAny M A (exec (.If test body orelse pos) env) Q E s := by
  refine wpAny_If (wpAny_mono ht ?_ (fun _ _ h => h))
  rintro b s' ⟨⟨tk', rfl⟩, h1, h2⟩
  cases b with
  | true => rw [if_pos rfl]; exact hb (h1 rfl) tk'
  | false => rw [if_neg Bool.false_ne_true]; exact ho (h2 rfl) tk'
local macro_rules | `(tactic| walk_at "exec If") => `(tactic| (k_here; (with_reducible show wpAny _ _ (exec (Stmt.If (Expr.BoolOp _ _ _) _ _ _) _) _ _ _); refine Stop.go ?_))
theorem reps_spec (dp un : Nat) (gd : Option (List Code)) (cn : Str) (cs : Scope) (a : Addr) (ccd : Value) (cl : List (Str × Addr)) (outer : List Env) (A₀ : Around) (base h₀ : Heap) (L : Addr) (m : Str → Option Value) (news : List (Addr × Obj)) (s : Shared) (l : Addr) (vs : List Value) (nn : Nat) (ks : List Nat) (Q E : Value → Shared → Prop)
   (B : Below A₀ base outer h₀) (F : Fr h₀ L s.heap m) (X : (Kf w.params).In h₀) (N : News h₀ L s.heap news) (T : Top vw (looseW vw lz) mean mg mb h₀) (hk : cs.kind = .function) (hd : dp + 2 < recursionLimit) (hu : un + 200 < cLine)
   (hm : (l, listOf vs.toArray nn) ∈ news) (hi : IntsAre vs (ks.map Int.ofNat)) (hn : ks.length ≤ 20)
   (hret : ∀ (aT : Addr) (vt : List Value) (nt : Nat) (tl : List (Addr × Obj)) (h' : Heap) (tk' : Nat), (∀ q ∈ news, ∀ p ∈ (aT, listOf vt.toArray nt) :: tl, q.1 < p.1) → OwnOff tl [aT] → DatAll tl vt ((repsN ks (ks.length / 2)).map triD) → Fr h₀ L h' m → News h₀ L h' ((aT, listOf vt.toArray nt) :: (tl ++ news)) → Q (.ref aT) { s with heap := h', toks := tk' }) :
   wpAny (model pw w) (ktrTop dp un gd cn cs L a ccd cl outer) (call (.ref 192) [.ref l]) Q E s := by
  have hlen : vs.length = ks.length := by rw [hi.length, List.length_map]
  refine wpAny_call ?_
  k_dflt (refine' code_defC ?k1 ?k2 ?k3 ?k4 ?k5 ?kA ?kF ?kK ?k6 ?k7 ?k8 ?k9 ?kB ?kD ?_ ?c2 ?c3 ?c4; (case kA => exact rfl); (case kF => exact rfl); (case kK => assumption); (case k1 => k_asm); (case k2 => k_asm); (case k3 => k_asm); (case k4 => k_asm); (case k5 => k_asm); (case k6 => k_is); (case k7 => k_is); (case k8 => ktr_room); (case k9 => exact BindsTo.of_eq rfl); (case kB => exact rfl); (case kD => decide +kernel); (case c2 => exact rfl); (case c3 => exact rfl); (case c4 => exact rfl); k_whole; intro g' L' h' tk' cells' FG' F' N' Y' B' X' T' l1; k_cells Y'; (try simp only [List.cons_append, List.nil_append] at N'); (try dsimp only); (try k_lift B'); (try k_fold))
  conv in fnB _ => whnf
  k_steps
  unfold Stop
  (rename IsRange _ _ _ _ _ _ _ _ => rg)
  (rename Fr _ _ _ _ => lF)
  (rename News _ _ _ _ => lN)
  have hfd : (ks.length : Int).fdiv 2 = (ks.length : Int) / 2 := Int.fdiv_eq_ediv_of_nonneg _ (by omega)
  have hsz0 : (((ks.length : Int).fdiv 2 + 1) - 1).toNat = ks.length / 2 := by rw [hfd]; omega
  refine iter_rangeT (repJ ks news L' _ _ _ _ _) (by rfl) rg (small_one (by omega) (by omega) (by omega) (by omega)) (rangeSize_nat _ _) lF lN ⟨rfl, [], 0, _, _, _, news, rfl, ?_, ⟨_, by assumption⟩, ⟨_, by assumption⟩, ⟨_, by assumption⟩, [], rfl, (fun _ hp => nomatch hp), ?_⟩ ?_ ?_
  · (rename ∀ p ∈ news, p.1 < _ => hlt)
    intro p hp b hb
    have h9 : @LT.lt Nat _ p.1 L' := hlt p hp
    simp only [List.mem_cons, List.not_mem_nil, or_false] at hb
    rcases hb with rfl | rfl | rfl | rfl <;> (refine neN ?_; omega)
  · unfold repsN; exact .nil
  · clear lF lN
    rintro i t m₁ nx h tk I o hi9 ⟨rfl, vt, nt, oK, oS, oZ, R, rfl, hoff, ⟨vK, dK⟩, ⟨vS, dS⟩, ⟨vZ, dZ⟩, tl, hR, htl, hDt⟩ hne F₁ N₁
    have hlR : (l, listOf vs.toArray nn) ∈ R := by rw [hR]; exact List.mem_append.mpr (.inr hm)
    have e1 := neH hne
    replace hne := neT hne
    have e2 := neH hne
    replace hne := neT hne
    have e3 := neH hne
    replace hne := neT hne
    have e4 := neH hne
    replace hne := neT hne
    replace hoff := offI hoff hne
    clear hne
    dsimp only at e1 e2 e3 e4
    k_steps
    unfold Stop
    clear rg
    (rename IsRange _ _ _ _ _ _ _ _ => rg)
    (rename Fr _ _ _ _ => lF)
    (rename News _ _ _ _ => lN)
    have hsz1 : ((ks.length : Int) - (1 + (i : Int)) + 1 - 0).toNat = ks.length - (i + 1) + 1 := by omega
    refine iter_rangeT (repJ2 ks news _ (I, o) _ _ _ _ _ i (repsN ks i)) (by rfl) rg (small_one (by omega) (by omega) (by omega) (by omega)) (rangeSize_nat _ _) lF lN ⟨rfl, vt, nt, _, _, _, R, repsN ks i, 0, rfl, hoff, ⟨_, by assumption⟩, ⟨_, by assumption⟩, ⟨_, by assumption⟩, rfl, Nat.le_refl _, tl, hR, htl, hDt⟩ ?_ ?_
    · clear lF lN hoff dK dS dZ hlR rg
      rintro i2 t2 m₁ nx h tk I2 o2 hi2 ⟨rfl, vt, nt, oK, oS, oZ, R, ds, st, rfl, hoff, ⟨vK, dK⟩, ⟨vS, dS⟩, ⟨vZ, dZ⟩, hst, hle, tl, hR, htl, hDt⟩ hne F₁ N₁
      have hlR : (l, listOf vs.toArray nn) ∈ R := by rw [hR]; exact List.mem_append.mpr (.inr hm)
      have hD : DatAll R vt (ds.map triD) := DatAll.mono (fun p hp => by rw [hR]; exact List.mem_append.mpr (.inl hp)) hDt
      have f0 := neH hne
      replace hne := neT hne
      have f1 := neH hne
      replace hne := neT hne
      have f2 := neH hne
      replace hne := neT hne
      have f3 := neH hne
      replace hne := neT hne
      have f4 := neH hne
      replace hne := neT hne
      replace hoff := offI hoff hne
      clear hne
      dsimp only at f0 f1 f2 f3 f4 hoff
      k_steps
      unfold Stop
      refine if_or (i2 = ks.length - (i + 1) ∨ ks.getD i2 0 ≠ ks.getD (i2 + (i + 1)) 0) ?_ ?_ ?_
      · k_steps
        all_goals first
          | exact absurd ‹true = false› (by decide)
          | exact absurd ‹false = true› (by decide)
          | (left; omega)
          | (right; exact ne_of_int (by assumption))
          | (rintro (h | h)
             · omega
             · exact h (eq_of_int (by assumption)))
      · intro hend0 tk7
        have hend := fun (_ : Unit) => hend0
        clear hend0
        k_steps
        · unfold Stop
          k_dflt (refine LCt.ListComp_T (F₀ := by k_asm) (by with_unfolding_all rfl) (by decide) (by rfl) (by decide) (by rfl) ?_)
          k_steps
          unfold Stop
          have hdl : ds.length ≤ 1000 := by
            have h1 := repFold_len ks (i + 1) (repsN ks i, 0) i2
            rw [← hst] at h1
            have h2 := repsN_len ks i
            have h3 : i * (ks.length + 1) ≤ 10 * 21 := Nat.mul_le_mul (by omega) (by omega)
            dsimp only at h1
            omega
          have hvl : vt.length = ds.length := by rw [hD.length, List.length_map]
          refine LCt.CompSrcT.ledger (by rfl) (by k_asm) (by k_asm) (by k_dflt k_memK) (by rw [List.size_toArray]; size_fits) (fun g => comp_filter (.inr ⟨listOf vt.toArray nt, by k_dflt k_memK, rfl, _, rfl⟩) (fun j => (ds.getD j default).1 == st && (ds.getD j default).2.1 == i2 + (i + 1)) ?_ ?_ _ _ _ (Nat.zero_add _) ?_)
          · intro j v I9 oI9 C9 oC9 D9 ys9 m9 h9 tk9 E9 Q9 hv9 hC9 hx9 F9 N9 hq9
            obtain ⟨a9, n9, t1, t2, t3, rfl, hm9⟩ := tri_at hD hv9
            k_steps
            · exact q_of (hq9 _) (b_tt (by assumption) (by assumption))
            · exact q_of (hq9 _) (b_tf (by assumption) (by assumption))
            · exact q_of (hq9 _) (b_f (by assumption))
          · intro v I9 oI9 C9 oC9 D9 ys9 m9 h9 tk9 E9 Q9 hC9 hx9 F9 N9 hq9
            k_steps
            exact hq9 _
          · intro D9 h9 tk9 F9 N9 off9
            simp only [LCg.Off1] at off9
            k_steps
            unfold Stop
            have hpd := pick_dat hD (fun j => (ds.getD j default).1 == st && (ds.getD j default).2.1 == i2 + (i + 1)) vt.length 0 (Nat.zero_add _)
            rw [List.nil_append, List.size_toArray] at *
            (rename News _ _ _ _ => lN)
            refine eq_nilB (bb := !(ds.any fun o => o.1 == st && o.2.1 == i2 + (i + 1))) lN (by k_dflt k_memK) rfl rfl hpd (fun p hp => by kst_mem) (by k_dflt k_memK) rfl rfl (pick_ok triD_ok) (by ktr_units) ?_ ?_
            · rw [hvl, pick_nil (f := fun o => o.1 == st && o.2.1 == i2 + (i + 1)) (fun _ => rfl), Bool.not_eq_true']
            k_steps
            · (rename Fr _ _ _ _ => lF)
              (rename News _ _ _ _ => lN)
              refine rep_close lF lN (by k_dflt k_memK) (by k_dflt k_memK) (by k_dflt k_memK) (by k_dflt k_memK) (by k_dflt k_memK) (by k_dflt k_memK) (fun p hp => by kst_mem) (by k_ne) (by k_ne) (by k_ne) (by k_ne) (by k_ne) hoff (by assumption) (by assumption) (by assumption) hR htl hDt ?_ (rt_skip hst (hend ()) ?_) (Nat.le_refl _)
              · omega
              · intro hh
                exact absurd (hh.2.2.symm.trans (by assumption)) Bool.false_ne_true
            · (rename Fr _ _ _ _ => lF)
              (rename News _ _ _ _ => lN)
              (try simp only [List.push_toArray] at lN)
              refine' rep_close lF lN (by k_dflt k_memK) (by k_dflt k_memK) (vs := vt ++ [.ref _]) (R := (_, _) :: R) ?p1 (by k_dflt k_memK) (by k_dflt k_memK) (by k_dflt k_memK) ?p2 (by k_ne) (by k_ne) (by k_ne) (by k_ne) (by k_ne) (off_cons ?p3 hoff) (by assumption) (by assumption) (by assumption) (congrArg (List.cons _) hR) ?p9 (tri_snoc (t := (st, i2 + (i + 1), i + 1)) hDt ?p6 ?p4 ?p5) ?p7 (rt_add hst (hend ()) ?p8) (Nat.le_refl _)
              case p1 => k_dflt k_memK
              case p2 => exact List.forall_mem_cons.mpr ⟨by k_dflt k_memK, fun p hp => by kst_mem⟩
              case p3 =>
                simp only [List.forall_mem_cons, List.not_mem_nil, false_implies, implies_true, and_true]
                exact ⟨by k_ne, by k_ne, by k_ne, by k_ne, by k_ne, by k_ne⟩
              case p6 => rfl
              case p9 => exact List.forall_mem_cons.mpr ⟨by dsimp only; exact of_ltN (by omega), htl⟩
              case p4 => dsimp only; omega
              case p5 => dsimp only; omega
              case p7 => omega
              case p8 => exact ⟨by omega, by omega, by assumption⟩
        · (rename Fr _ _ _ _ => lF)
          (rename News _ _ _ _ => lN)
          refine rep_close lF lN (by k_dflt k_memK) (by k_dflt k_memK) (by k_dflt k_memK) (by k_dflt k_memK) (by k_dflt k_memK) (by k_dflt k_memK) (fun p hp => by kst_mem) (by k_ne) (by k_ne) (by k_ne) (by k_ne) (by k_ne) hoff (by assumption) (by assumption) (by assumption) hR htl hDt ?_ (rt_skip hst (hend ()) ?_) (Nat.le_refl _)
          · omega
          · intro hh; omega
      · intro hend0 tk7
        have hend := fun (_ : Unit) => hend0
        clear hend0
        k_steps
        (rename Fr _ _ _ _ => lF)
        (rename News _ _ _ _ => lN)
        exact rep_close lF lN (by k_dflt k_memK) (by k_dflt k_memK) (by k_dflt k_memK) (by k_dflt k_memK) (by k_dflt k_memK) (by k_dflt k_memK) (fun p hp => by kst_mem) (by k_ne) (by k_ne) (by k_ne) (by k_ne) (by k_ne) hoff (by assumption) (by assumption) (by assumption) hR htl hDt rfl (rt_keep hst (hend ())) (Nat.le_succ_of_le hle)
    · clear lF lN
      rintro m₁ nx h tk ⟨rfl, vt, nt, oK, oS, oZ, R, ds, st, rfl, hoff, ⟨vK, dK⟩, ⟨vS, dS⟩, ⟨vZ, dZ⟩, hst, hle, tl, hR, htl, hDt⟩ F₁ N₁
      k_steps
      rw [hsz1] at hst
      have hds : ds = repsN ks (i + 1) := by
        rw [repsN_succ]
        unfold repSize
        rw [← hst]
      rw [hds] at hDt
      refine TurnT.next F₁ N₁ (.head _) (fun p hp => .tail _ hp) ?_ ⟨rfl, vt, nt, oK, oS, oZ, R, rfl, (fun p hp b hb => hoff p hp b (.tail _ hb)), ⟨_, dK⟩, ⟨_, dS⟩, ⟨_, dZ⟩, tl, hR, htl, hDt⟩
      simp only [List.forall_mem_cons]
      exact ⟨e1, e2, e3, e4, fun p hp => hoff p hp _ (.head _)⟩
  · rintro m₁ nx h tk ⟨rfl, vt, nt, oK, oS, oZ, R, rfl, hoff, ⟨vK, dK⟩, ⟨vS, dS⟩, ⟨vZ, dZ⟩, tl, hR, htl, hDt⟩ F₁ N₁
    k_steps
    rw [hsz0] at hDt
    (rename ∀ p ∈ news, p.1 < L' => hlt)
    subst hR
    refine hret _ vt nt tl _ _ ?_ ?_ hDt (by assumption) ?_
    · intro q hq p hp
      have h9 : @LT.lt Nat _ q.1 L' := hlt q hq
      rcases List.mem_cons.mp hp with rfl | hp
      · exact of_ltN (by dsimp only; omega)
      · have h8 := htl p hp
        exact Nat.lt_trans h9 h8
    · intro p hp b hb
      exact hoff p (List.mem_append.mpr (.inl hp)) b (by rw [List.mem_singleton.mp hb]; exact .head _)
    · (rename News h₀ L _ (_ :: _) => kN9)
      intro p hp
      rcases List.mem_cons.mp hp with rfl | hp
      · exact kN9 _ (.head _)
      · exact kN9 _ (.tail _ (.tail _ (.tail _ (.tail _ hp))))
end Mine
end SecReps
set_option maxRecDepth 100000
set_option maxHeartbeats 8000000
set_option Elab.async false
set_option linter.unusedVariables false
set_option linter.unusedSimpArgs false
open PySem PySem.W PySem.Calls PyProof.Rows PySem.Spec
noncomputable section SecAcc
namespace Mine
variable {w : World} {mean : ExcName → Option Value} {mg mb : Str → Option Value}
theorem regAcc : Kf = Kf ∧ PySem.Challenge.rw_xn0003_01 = PySem.Challenge.rw_xn0003_01 := by
  k_fill
  try (walk1; fail "looked")
  exact ⟨rfl, rfl⟩
noncomputable abbrev accObj (C dx : Addr) (xs : Array Value) (n : Nat := 0) : Obj := { cls := .ref C, dict := some dx, data := .seq xs n }
noncomputable def makesInL (K : Frag) (C : Addr) : Bool := match K.lookup C with
  | some ⟨_, _, .cls cd, sl⟩ => !cd.abstract && !cd.hasDel && (sl.toList[4]?).join == some (.builtin "list.__new__") && !cd.mro.isEmpty && cd.mro.contains (.ref C) && cd.mro.contains (.type "list") &&
      specialIn K (.ref C) "__call__" == some (some (.builtin "type.__call__")) && instIn K (.ref C) (.type "type") == some true
  | _ => false
structure MakesL (M : Model) (h : Heap) (C : Addr) : Prop where
  obj : ∃ oc od cd sl, h.get? C = some ⟨oc, od, .cls cd, sl⟩ ∧ cd.abstract = false ∧ cd.hasDel = false ∧ cd.mro.isEmpty = false
  made : Looks M h (Bind.madeBy (.ref C)) (some "list.__new__")
  base : Looks M h (Bind.staticBase (.ref C)) (.ref C)
  self : Looks M h (isSubtype (.ref C) (.ref C)) true
  top : Looks M h (isSubtype (.ref C) (.type "list")) true
  call : Looks M h (specialOf (.ref C) "__call__") (some (.builtin "type.__call__"))
  typ : Looks M h (isInstance (.ref C) (.type "type")) true
theorem makesL_of {K : Frag} {M : Model} {h : Heap} (X : K.In h) {C : Addr} (e : makesInL K C = true) : MakesL M h C := by
  unfold makesInL at e
  split at e
  · rename_i oc od cd sl ho
    simp only [Bool.and_eq_true, Bool.not_eq_true', beq_iff_eq] at e
    obtain ⟨⟨⟨⟨⟨⟨⟨e1, e2⟩, e3⟩, e4⟩, e5⟩, e6⟩, e7⟩, e8⟩ := e
    have hc : clsIn K C = some cd := by unfold clsIn; rw [ho]
    have hm : Looks M h (mroOf (.ref C)) cd.mro := (looks_clsIn X hc).andThen .now
    obtain ⟨c, l, hl⟩ : ∃ c l, cd.mro = c :: l := by cases q : cd.mro with | nil => rw [q] at e4; cases e4 | cons c l => exact ⟨c, l, rfl⟩
    have made : Looks M h (Bind.madeBy (.ref C)) (some "list.__new__") := by
      intro A Q E s k q
      unfold Bind.madeBy
      refine wpAny_bind (hm A _ E s k ?_)
      rw [hl, List.forIn_cons]
      refine wpAny_bind (wpAny_bind (wpAny_bind (wpAny_bind (wpAny_loadPart (k _ _ (X _ _ ho)) (wpAny_pure ?_)))))
      dsimp only
      rw [← Array.getElem?_toList, e3]
      exact wpAny_pure (wpAny_pure (wpAny_pure q))
    refine ⟨⟨oc, od, cd, sl, X _ _ ho, e1, e2, e4⟩, made, ?_, looks_mroIn X ?_, looks_mroIn X ?_, looks_specialIn X e7, looks_instIn X e8⟩
    · intro A Q E s k q
      unfold Bind.staticBase
      refine wpAny_bind (hm A _ E s k ?_)
      rw [hl, List.forIn_cons]
      exact wpAny_bind (wpAny_bind (wpAny_bind (made A _ E s k (wpAny_pure (wpAny_pure (wpAny_pure q))))))
    · unfold mroIn; rw [hc, Option.bind_some, if_neg (by rw [e4]; decide), e5]
    · unfold mroIn; rw [hc, Option.bind_some, if_neg (by rw [e4]; decide), e6]
  · cases e
theorem ln_kind : builtinKind "list.__new__" = some .builtinFn := by decide +kernel
theorem ln_split : splitId "list.__new__" = some ("list", "__new__") := by decide +kernel
theorem ln_args (a : Value) : (match Manifest.signature? "list.__new__" with | some sig => Bind.checkArgs "list.__new__" sig ⟨[a], []⟩ | _ => pure ()) = pure () := by kernel_rfl
section
variable {prog : Program} {w : World} {A : Around} {K : Frag} {C : Addr} {R : Result → Shared → Prop} {h : Heap} {g : Array GenState} {d : Drawn} {t : Nat} {os : OsState}
theorem new_L (Y : MakesL (model prog w) h C)
    (hq : R (.ok (.ret (.ref (h.objs.size + 1)))) ⟨(h.push emptyDict).push (accObj C h.objs.size #[]), g, d, t, os⟩) :
    codeAny (model prog w) A (.call (.builtin "list.__new__") ⟨[.ref C], []⟩) R ⟨h, g, d, t, os⟩ := by
  obtain ⟨⟨oc, od, cd, sl, hC, e1, e2, e4⟩, made, base, self, top, call, typ⟩ := Y
  refine codeAny_call_builtin_code (Code.quiet_builtin _ (by decide +kernel)) ?_
  have ha := ln_args (.ref C)
  simp only [checkBuiltinCall, ln_kind, ln_split, ha]
  have here : Looks (model prog w) h (Bind.madeHere "list.__new__" (.ref C)) () := base.andThen (made.andThen (Looks.of_pure (by simp only [Option.map_some, bne_self_eq_false, Bool.false_eq_true, if_false])))
  repeat (first | simp only [bne_self_eq_false, Bool.false_eq_true, if_false] | lk)
  refine codeAny_builtin_stack PySem.F.entry_list_new rfl fun p st => ?_
  rw [Around.under_plainId PySem.F.plain_list_new _]
  have hown := owner_list_new
  simp only [hown]
  have hC2 := Heap.get?_push_of_some (accObj C h.objs.size #[]) (Heap.get?_push_of_some emptyDict hC)
  repeat (first | simp only [Bool.not_true, e2, Bool.false_eq_true, if_false] | lk)
  show R _ _
  rw [Heap.size_push]
  exact hq
theorem make_coreL {init : Value} (Y : MakesL (model prog w) h C) (hi : Looks (model prog w) h (typeLookup (.ref C) "__init__") (some init))
    (hb : ∀ self, Looks (model prog w) h (bindSpecial init self) (init, [self]))
    (hq : codeAny (model prog w) (A.under (.builtin "type.__call__" ⟨[.ref C], []⟩)) (.call init ⟨[.ref (h.objs.size + 1)], []⟩) (InitBack (h.objs.size + 1) R) ⟨(h.push emptyDict).push (accObj C h.objs.size #[]), g, d, t, os⟩) :
    codeAny (model prog w) A (.call (.ref C) ⟨[], []⟩) R ⟨h, g, d, t, os⟩ := by
  have Y' := Y
  obtain ⟨⟨oc, od, cd, sl, hC, e1, e2, e4⟩, made, base, self, top, call, typ⟩ := Y
  refine codeAny_of_tree ?_
  show wpAny _ _ (callAny (.ref C) _) _ _ _
  refine nd_load hC ?_
  show wpAny _ _ (callAny.viaDunder (.ref C) _) _ _ _
  unfold callAny.viaDunder
  refine wpAny_bind (call.at ?_)
  dsimp only
  rw [tc_bind]
  refine wpAny_bind (wpAny_pure (wpAny_bind (wpAny_pure ?_)))
  refine wpAny_pure (a := Fin.again (.call (.builtin "type.__call__") ⟨[.ref C], []⟩)) (And.intro rfl ?_)
  refine codeAny_call_builtin_at (Code.quiet_builtin _ (by decide +kernel)) entry_typeCall (check_slot tc_kind tc_split typ (tc_args _ _ _) ?_)
  unfold Builtin.«type.__call__»
  have hm : Looks (model prog w) h (mroOf (.ref C)) cd.mro := ((Looks.ld (part := none) hC).andThen .now).andThen .now
  repeat (first | simp only [e4, Bool.false_eq_true, if_false] | with_reducible refine wpAny_call ?_ | lk)
  refine new_L Y' ?_
  have k : ∀ b o, h.get? b = some o → ((h.push emptyDict).push (accObj C h.objs.size #[])).get? b = some o := fun b o e => Heap.get?_push_of_some _ (Heap.get?_push_of_some _ e)
  have hx : ((h.push emptyDict).push (accObj C h.objs.size #[])).get? (h.objs.size + 1) = some (accObj C h.objs.size #[]) := by heap_get
  have t1 : Looks (model prog w) ((h.push emptyDict).push (accObj C h.objs.size #[])) (typeOf (.ref (h.objs.size + 1))) (.ref C) := (Looks.ld hx).andThen .now
  have s1 := self.keeps k
  have i1 := hi.keeps k
  have b1 := (hb (.ref (h.objs.size + 1))).keeps k
  unfold isInstance callSpecial? specialOf
  repeat (first | with_reducible refine wpAny_call ?_ | lk)
  refine codeAny_mono hq fun r s' z => ?_
  rcases r with e | (v | _ | _ | _) <;> first | exact z | exact z.elim | skip
  obtain ⟨rfl, z⟩ := z
  exact wpAny_pure (wpAny_pure z)
end
section
variable {prog : Program} {w : World} {A : Around} {K : Frag} {C x : Addr} {s : Shared} {h₀ : Heap} {L : Addr} {m : Str → Option Value} {news : List (Addr × Obj)} {E : Value → Shared → Prop} {Q : Value → Shared → Prop}
theorem call_accL {fI : Addr} (F : Fr h₀ L s.heap m) (X₀ : K.In h₀) (N : News h₀ L s.heap news) (hm : makesInL K C = true)
    (hi : findIn K (.ref C) "__init__" = some (some (.ref fI))) (hf : isFn K (.ref fI) = true)
    (h : ∀ x dx h', Fr h₀ L h' m → News h₀ L h' ((x, accObj C dx #[]) :: (dx, emptyDict) :: news) → (∀ p ∈ news, p.1 < dx) → dx < x →
      codeAny (model prog w) (A.under (.builtin "type.__call__" ⟨[.ref C], []⟩)) (.call (.ref fI) ⟨[.ref x], []⟩) (InitBack x fun r s' => match r with | .ok (.ret v) => Q v s' | .ok _ => False | .error e => E e s') { s with heap := h' }) :
    wpAny (model prog w) A (call (.ref C) [] []) Q E s := by
  refine wpAny_call ?_
  obtain ⟨hh, g, d, t, os⟩ := s
  have X := X₀.keeps F.keep
  refine make_coreL (makesL_of X hm) (looks_findIn X hi) (fun self => bind_fn X self (beq_iff_eq.mp hf)) (h _ hh.objs.size _ ((F.push _).push _) ?_ (fun p hp => Heap.lt_size (N p hp).1) (Nat.lt_succ_self _))
  have := (N.push F emptyDict).push (F.push _) (accObj C hh.objs.size #[])
  rwa [Heap.size_push] at this
end
theorem refuse_L (self : Value) : refuseLoop self "__setattr__" [.type "list", .type "object"] = pure () := by kernel_rfl
noncomputable def onlyList : List Value → Bool
  | [.type n, .type k] => n == "list" && k == "object"
  | .ref _ :: r => onlyList r
  | _ => false
theorem refuse_onlyL (self : Value) : ∀ {l : List Value}, onlyList l = true → refuseLoop self "__setattr__" l = pure ()
  | [.type n, .type k], e => by
    have e' := Bool.and_eq_true_iff.mp (show (n == "list" && k == "object") = true from e)
    rw [beq_iff_eq.mp e'.1, beq_iff_eq.mp e'.2]; exact refuse_L self
  | .ref c :: r, e => by rw [refuseLoop_ref]; exact refuse_onlyL self (by rw [onlyList] at e; exact e; all_goals simp)
theorem only_hasL : ∀ {l : List Value}, onlyList l = true → l.contains (.type "object") = true
  | [.type n, .type k], e => by
    have e' := Bool.and_eq_true_iff.mp (show (n == "list" && k == "object") = true from e)
    rw [beq_iff_eq.mp e'.2]; simp
  | .ref c :: r, e => by rw [List.contains_cons, only_hasL (l := r) (by rw [onlyList] at e; exact e; all_goals simp), Bool.or_true]
noncomputable def plainOverL (K : Frag) (C : Addr) : Bool := (clsIn K C).any fun cd => onlyList cd.mro
section
open Builtin Builtin.ObjectAttr Builtin.Getset_descriptor
variable {prog : Program} {w : World} {A : Around} {K : Frag} {C x : Addr} {s : Shared} {h₀ : Heap} {L : Addr} {m : Str → Option Value} {news : List (Addr × Obj)} {R : Result → Shared → Prop}
theorem osa_openL {ox : Obj} {od : Option Obj} {name : Str} {tk : Tok} {v : Value} {r : Option Value} (X : K.In s.heap) (I : InstAt s.heap x ox C od) (hp : plainOverL K C = true) (ht : takerIn K C name = some r)
    (h : ∀ b, wpAny (model prog w) A.in1 (match r with | some a => setByDescriptor a (.ref x) v | none => storeInOwnDict (.ref x) (.ref C) (.str name tk) name v b)
      (fun fin s' => match fin with | .done f => R (.ok f) s' | .again c' => c'.quiet = true ∧ codeAny (model prog w) A c' R s') (fun e s' => R (.error e) s') s) :
    codeAny (model prog w) A (.call (.builtin "object.__setattr__") ⟨[.ref x, .str name tk, v], []⟩) R s := by
  have SF := PySem.F.store_object
  obtain ⟨cd, hc, ho⟩ := any_some hp
  have ne : cd.mro.isEmpty = false := by cases q : cd.mro with | nil => rw [q] at ho; cases ho | cons _ _ => rfl
  have sub : Looks (model prog w) s.heap (isInstance (.ref x) (.type "object")) true := I.type.andThen (looks_mroIn X (by unfold mroIn; rw [hc, Option.bind_some, if_neg (by rw [ne]; decide), only_hasL ho]))
  refine codeAny_call_builtin SF.slot.plain SF.entry (@check_slot (model prog w) _ _ s "object.__setattr__" "object" "__setattr__" (.ref x) [.str name tk, v] [] _ SF.kind SF.split sub (SF.args (.ref x) (.str name tk) v) ?_)
  obtain ⟨attr, ha, hr⟩ := Option.bind_eq_some_iff.mp ht
  have hm : Looks (model prog w) s.heap (mroOf (.ref C)) cd.mro := (looks_clsIn X hc).andThen .now
  have L3 : Looks (model prog w) s.heap (storeTaker? attr) r := by
    cases attr with
    | none => cases hr; exact .now
    | some a =>
      obtain ⟨b, hb, rfl⟩ := Option.map_eq_some_iff.mp hr
      refine (looks_takesIn X hb).andThen ?_
      cases b <;> exact .now
  rw [osa_eq, refuse_eq]
  refine wpAny_bind (wpAny_bind (I.type.here (wpAny_bind (hm.here ?_))))
  rw [refuse_onlyL _ ho]
  refine wpAny_pure (wpAny_bind (I.type.here (wpAny_bind ((looks_findIn X ha).here (wpAny_bind (L3.here ?_))))))
  exact h _
theorem osa_dictL {ox od od' : Obj} {dx : Addr} {name : Str} {tk : Tok} {v : Value} {pre post : List (Addr × Obj)} {es : List DictEntry} {n : Nat} (F : Fr h₀ L s.heap m) (N : News h₀ L s.heap (pre ++ (dx, od) :: post)) (X : K.In s.heap)
    (I : InstAt s.heap x ox C (some od)) (hd : ox.dict = some dx) (hp : plainOverL K C = true) (ht : takerIn K C name = some none) (hh : (clsIn K C).any (·.hasDict) = true)
    (hl : (lookIn name od).isSome = true) (h1 : ∀ p ∈ pre, p.1 ≠ dx) (h2 : ∀ p ∈ post, p.1 ≠ dx)
    (e : Obj.putName name (PyData.keyHash w.params name) (.str name s.toks) v od = od') (e' : od'.data = .dict es.toArray n) (hz : es.length ≤ 1000)
    (h : ∀ h', Fr h₀ L h' m → News h₀ L h' (pre ++ (dx, od') :: post) → R (.ok (.ret .none)) { s with heap := h', toks := s.toks + 1 }) :
    codeAny (model prog w) A (.call (.builtin "object.__setattr__") ⟨[.ref x, .str name tk, v], []⟩) R s := by
  refine osa_openL X I hp ht fun b => ?_
  obtain ⟨cd, hc, hd'⟩ := any_some hh
  obtain ⟨U1, U2⟩ := news_upd (f := Obj.putName name (PyData.keyHash w.params name) (.str name s.toks) v) F N h1 h2 e (by obtain ⟨_, _, dd, _⟩ := od'; cases e'; rfl)
  have D := (N (dx, od) (by simp)).1
  have D' := (U2 (dx, od') (by simp)).1
  obtain ⟨hx, hcl, hn, -⟩ := I
  obtain ⟨oc, odi, oda, osl⟩ := ox
  dsimp only at hcl hd
  subst hcl hd
  refine wpAny_bind (wpAny_pure (wpAny_bind (wpAny_bind (wpAny_loadPart hx (wpAny_bind ((looks_clsIn X hc).here ?_))))))
  rw [hd']
  refine wpAny_pure (a := some dx) (wpAny_bind (wpAny_pure (wpAny_bind ?_)))
  unfold nsSet
  refine wpAny_bind (wpAny_bind (wpAny_askSetting (wpAny_pure (wpAny_bind (wpAny_mkText (wpAny_bind (wpAny_loadPart D ?_)))))))
  unfold lookIn at hl
  split at hl
  · rename_i es₀ n₀ q
    rw [q]
    dsimp only
    have c : (!es₀.any (·.key.isStr name) && es₀.any (·.refKey)) = false := by
      rw [← Array.any_toList, ← Array.any_toList]
      split at hl
      · rename_i en he
        rw [List.any_eq_true.mpr ⟨en, List.mem_of_find?_eq_some he, List.find?_some he⟩]; rfl
      · split at hl
        · cases hl
        · rename_i z; rw [Bool.not_eq_true] at z; rw [z, Bool.and_false]
    rw [aRefKeyMayBeTheName_at, c]
    refine wpAny_updatePart D ?_
    refine wpAny_bind (wpAny_lookBehind D' (by rw [e']; exact pastItsLine_dict (by rw [List.size_toArray, sizeLine_eq]; omega)) ?_)
    exact wpAny_pure (h _ U1 U2)
  · cases hl
theorem set_dictL {E : Value → Shared → Prop} {dx : Addr} {news' : List (Addr × Obj)} {ox : Obj} {es es' : List DictEntry} {n n' : Nat} {name : Str} {v : Value} {Q : Unit → Shared → Prop} (F : Fr h₀ L s.heap m) (X₀ : K.In h₀) (N : News h₀ L s.heap news) (I : InstAt s.heap x ox C (some (dictOf es n))) (hd : ox.dict = some dx)
    (hs : findIn K (.ref C) "__setattr__" = some (some (.builtin "object.__setattr__"))) (hp : plainOverL K C = true) (ht : takerIn K C name = some none) (hh : hasDictIn K C = true) (hl : (getL name es).isSome = true)
    (e : (putL name (PyData.keyHash w.params name) (.str name (s.toks + 1)) v es, putN name es n) = (es', n')) (U : Upd dx (dictOf es n) (dictOf es' n') news news') (hz : es'.length ≤ 1000)
    (h : ∀ h', Fr h₀ L h' m → News h₀ L h' news' → Q () { s with heap := h', toks := s.toks + 2 }) :
    wpAny (model prog w) A (setAttr (.ref x) name v) Q E s := by
  obtain ⟨pre, post, rfl, rfl, a, b⟩ := U.split
  obtain ⟨e1, e2⟩ := Prod.mk.inj e
  exact set_plain (X₀.keeps F.keep) I hs (osa_dictL (s := { s with toks := s.toks + 1 }) F N (X₀.keeps F.keep) I hd hp ht hh hl a b (by rw [putName_dict, e1, e2]) rfl hz fun h' F' N' => h h' F' N')
theorem inst_newsL {h : Heap} {dx : Addr} {od : Obj} {xs : Array Value} {n : Nat} (N : News h₀ L h news) (h1 : (x, accObj C dx xs n) ∈ news) (h2 : (dx, od) ∈ news) :
    InstAt h x (accObj C dx xs n) C (some od) := ⟨(N _ h1).1, rfl, rfl, (N _ h2).1⟩
end
end Mine
end SecAcc
set_option maxRecDepth 100000
set_option maxHeartbeats 8000000
set_option Elab.async false
set_option linter.unusedVariables false
set_option linter.unusedSimpArgs false
open PySem PySem.W PySem.Calls PyProof.Rows PySem.Spec
noncomputable section SecSup
namespace Mine
variable {w : World} {mean : ExcName → Option Value} {mg mb : Str → Option Value}
theorem regSup : Kf = Kf ∧ PySem.Challenge.rw_xn0003_01 = PySem.Challenge.rw_xn0003_01 := by
  k_fill
  try (walk1; fail "looked")
  exact ⟨rfl, rfl⟩
section
variable {prog : Program} {w : World} {M : Model} {A : Around} {E : Value → Shared → Prop} {h : Heap} {g : Array GenState} {d : Drawn} {t : Nat} {os : OsState}
theorem slot_wd_get : Slot "wrapper_descriptor" "__get__" "wrapper_descriptor.__get__" := .of (owner := "wrapper_descriptor") (n := "__get__") (by rw [typeLookup_type, builtinLookup_eq_fast]; kernel_rfl) (by decide +kernel) (by decide +kernel) (by decide +kernel)
  (by first | exact .inl (by decide +kernel) | exact .inr (by decide +kernel)) (by rw [isSubtype_type]; kernel_rfl)
theorem slot_md_get : Slot "method_descriptor" "__get__" "method_descriptor.__get__" := .of (owner := "method_descriptor") (n := "__get__") (by rw [typeLookup_type, builtinLookup_eq_fast]; kernel_rfl) (by decide +kernel) (by decide +kernel) (by decide +kernel)
  (by first | exact .inl (by decide +kernel) | exact .inr (by decide +kernel)) (by rw [isSubtype_type]; kernel_rfl)
theorem entry_wd_get : entryFor table "wrapper_descriptor.__get__" = some Builtin.«wrapper_descriptor.__get__» := entryFor_of_tree (by kernel_rfl)
theorem entry_md_get : entryFor table "method_descriptor.__get__" = some Builtin.«method_descriptor.__get__» := entryFor_of_tree (by kernel_rfl)
theorem args_wd_get (a b c : Value) : argsOk "wrapper_descriptor.__get__" ⟨[a, b, c], []⟩ := by unfold argsOk; kernel_rfl
theorem args_md_get (a b c : Value) : argsOk "method_descriptor.__get__" ⟨[a, b, c], []⟩ := by unfold argsOk; kernel_rfl
theorem own_len : ".".intercalate ("list.__len__".cutAt '.').dropLast = "list" := by decide +kernel
theorem own_init : ".".intercalate ("list.__init__".cutAt '.').dropLast = "list" := by decide +kernel
theorem own_pop : ".".intercalate ("list.pop".cutAt '.').dropLast = "list" := by decide +kernel
theorem wd_get {x C : Addr} {bid : String} {ox : Obj} {Q : Fin → Shared → Prop} (hown : ".".intercalate (bid.cutAt '.').dropLast = "list") (hx : h.get? x = some ox) (hxc : ox.cls = .ref C) (hI : Looks (model prog w) h (isSubtype (.ref C) (.type "list")) true)
    (hq : Q (.done (.ret (.ref h.objs.size))) ⟨h.push { cls := .type "method-wrapper", data := .fields #[.builtin bid, .ref x] }, g, d, t, os⟩) :
    wpAny (model prog w) A (Builtin.«wrapper_descriptor.__get__» ⟨[.builtin bid, .ref x, .ref C], []⟩) Q E ⟨h, g, d, t, os⟩ := by
  unfold Builtin.«wrapper_descriptor.__get__»
  repeat (first | (with_reducible refine wpAny_loadPart_at hx ?_; rw [hxc]) | (with_reducible refine Looks.at hI ?_) | simp only [hown, Bool.not_true, Bool.false_eq_true, if_false] | (with_reducible refine wpAny_newObj_type ?_ (by size_fits)) | wp_step | dsimp only)
  all_goals (try exact hq)
theorem md_get {x C : Addr} {bid : String} {ox : Obj} {Q : Fin → Shared → Prop} (hown : ".".intercalate (bid.cutAt '.').dropLast = "list") (htold : Manifest.toldItsClass.contains bid = false) (hx : h.get? x = some ox) (hxc : ox.cls = .ref C) (hI : Looks (model prog w) h (isSubtype (.ref C) (.type "list")) true)
    (hq : Q (.done (.ret (.ref h.objs.size))) ⟨h.push { cls := .type "builtin_function_or_method", data := .fields #[.builtin bid, .ref x] }, g, d, t, os⟩) :
    wpAny (model prog w) A (Builtin.«method_descriptor.__get__» ⟨[.builtin bid, .ref x, .ref C], []⟩) Q E ⟨h, g, d, t, os⟩ := by
  unfold Builtin.«method_descriptor.__get__»
  repeat (first | (with_reducible refine wpAny_loadPart_at hx ?_; rw [hxc]) | (with_reducible refine Looks.at hI ?_) | simp only [hown, htold, Bool.not_true, Bool.false_eq_true, if_false] | (with_reducible refine wpAny_newObj_type ?_ (by size_fits)) | wp_step | dsimp only)
  all_goals (try exact hq)
theorem super_gaB {so D x C : Addr} {bid dT gid bT : String} {Bg : Builtin} {ox : Obj} {l₀ l : List Value} {K : Frag} {name : Str} {tk : Tok} {Q : Fin → Shared → Prop}
    (hso : h.get? so = some { cls := .type "super", dict := none, data := .fields #[.ref D, .ref x, .ref C], slots := #[] }) (hno : Looks (model prog w) h (opaqueClassAbove (.ref C)) none)
    (hC : Looks (model prog w) h (mroOf (.ref C)) l₀) (hl : (l₀.dropWhile (· != .ref D)).drop 1 = l) (X : K.In h)
    (hf : alongIn K name l = some (some (.builtin bid))) (hxC : x ≠ C) (hn : (name == ("__class__" : Str)) = false)
    (hTf : typeOf (.builtin bid) = pure (.type dT)) (Sg : Slot dT "__get__" gid) (eg : entryFor table gid = some Bg) (ag : ∀ a b c, argsOk gid ⟨[a, b, c], []⟩)
    (hBg : ∀ (A' : Around) (E' : Value → Shared → Prop) (Q' : Fin → Shared → Prop), Q' (.done (.ret (.ref h.objs.size))) ⟨h.push { cls := .type bT, data := .fields #[.builtin bid, .ref x] }, g, d, t, os⟩ → wpAny (model prog w) A' (Bg ⟨[.builtin bid, .ref x, .ref C], []⟩) Q' E' ⟨h, g, d, t, os⟩)
    (hq : Q (.done (.ret (.ref h.objs.size))) ⟨h.push { cls := .type bT, data := .fields #[.builtin bid, .ref x] }, g, d, t, os⟩) :
    wpAny (model prog w) A (Builtin.«super.__getattribute__» ⟨[.ref so, .str name tk], []⟩) Q E ⟨h, g, d, t, os⟩ := by
  have hlk := Sg.lookup
  have hne : (Value.ref x == Value.ref C) = false := by simp [hxC]
  have hT : (⟨h, g, d, t, os⟩ : Shared).TypeIs (.builtin bid) dT := hTf
  have hdt : ({ cls := .type "super", dict := none, data := .fields #[.ref D, .ref x, .ref C], slots := #[] } : Obj).data = .fields #[.ref D, .ref x, .ref C] := rfl
  have f0 : (#[.ref D, .ref x, .ref C] : Array Value)[0]? = some (.ref D) := rfl
  have f1 : (#[.ref D, .ref x, .ref C] : Array Value)[1]? = some (.ref x) := rfl
  have f2 : (#[.ref D, .ref x, .ref C] : Array Value)[2]? = some (.ref C) := rfl
  unfold Builtin.«super.__getattribute__»
  repeat (first
    | (with_reducible refine wpAny_field hso hdt f0 ?_) | (with_reducible refine wpAny_field hso hdt f1 ?_) | (with_reducible refine wpAny_field hso hdt f2 ?_)
    | (with_reducible refine ks_wpAny_notOpaque hno ?_)
    | (with_reducible refine Looks.at hC ?_; rw [hl])
    | (refine ks_forIn_along X (fun _ _ => rfl) rfl ?_ hf)
    | (with_reducible refine wpAny_typeOf hT ?_)
    | (with_reducible refine wpAny_call_entry Sg hT eg ?_ (ag _ _ _))
    | (with_reducible refine hBg _ _ _ ?_)
    | (with_reducible refine ⟨_, rfl, ?_⟩)
    | (simp only [hn, hne, Bool.or_false, Bool.false_eq_true, if_false])
    | wp_step
    | dsimp only)
  all_goals (try exact hq)
end
end Mine
end SecSup
set_option maxRecDepth 100000
set_option maxHeartbeats 8000000
set_option Elab.async false
set_option linter.unusedVariables false
set_option linter.unusedSimpArgs false
open PySem PySem.W PySem.Calls PyProof.Rows PySem.Spec
noncomputable section SecLRun
namespace Mine
variable {w : World} {mean : ExcName → Option Value} {mg mb : Str → Option Value}
theorem regLRun : Kf = Kf ∧ PySem.Challenge.rw_xn0003_01 = PySem.Challenge.rw_xn0003_01 := by
  k_fill
  try (walk1; fail "looked")
  exact ⟨rfl, rfl⟩
section
variable {prog : Program} {w : World} {M : Model} {A : Around} {E : Value → Shared → Prop} {s : Shared}
theorem run_len {x : Addr} {ox : Obj} {xs : Array Value} {n : Nat} {Q : Fin → Shared → Prop} (hx : s.heap.get? x = some ox) (hd : ox.data = .seq xs n) (hz : xs.size ≤ 1000)
    (hq : ∀ t tk, Q (.done (.ret (.int (xs.size : Int) t))) { s with toks := tk }) : wpAny (model prog w) A (Builtin.«list.__len__» ⟨[.ref x], []⟩) Q E s := by
  obtain ⟨hh, g, d, t, os⟩ := s
  unfold Builtin.«list.__len__»
  repeat (first | (with_reducible refine wpAny_loadPart_at hx ?_; rw [hd]) | simp only [Bool.false_eq_true, if_false] | wp_step | dsimp only)
  all_goals (try exact hq _ _)
theorem run_append {x : Addr} {v : Value} {ox : Obj} {xs : Array Value} {n : Nat} {Q : Fin → Shared → Prop} (hx : s.heap.get? x = some ox) (hd : ox.data = .seq xs n) (hz : xs.size ≤ 1000)
    (hq : Q (.done (.ret .none)) { s with heap := s.heap.update x (Obj.mapSeq (·.push v)) }) : wpAny (model prog w) A (Builtin.«list.append» ⟨[.ref x, v], []⟩) Q E s := by
  have hsz : sizeLine = 1000000 ∨ 1000 < sizeLine := by right; rw [sizeLine_eq]; decide
  obtain ⟨hh, g, d, t, os⟩ := s
  unfold Builtin.«list.append»
  repeat (first | (with_reducible refine wpAny_updateSeq hx hd ?_ (by rw [sizeLine_eq]; omega) (by rw [sizeLine_eq, Array.size_push]; omega)) | simp only [Bool.false_eq_true, if_false] | wp_step | dsimp only)
  all_goals (try exact hq)
theorem run_init {x : Addr} {ox : Obj} {n : Nat} {Q : Fin → Shared → Prop} (hx : s.heap.get? x = some ox) (hd : ox.data = .seq #[] n)
    (hq : Q (.done (.ret .none)) { s with heap := s.heap.update x (Obj.mapSeq fun _ => #[]) }) : wpAny (model prog w) A (Builtin.«list.__init__» ⟨[.ref x], []⟩) Q E s := by
  obtain ⟨hh, g, d, t, os⟩ := s
  unfold Builtin.«list.__init__»
  repeat (first | (with_reducible refine wpAny_seqItems hx hd ?_) | (with_reducible refine wpAny_updateSeq hx hd ?_ (by rw [sizeLine_eq]; decide) (by rw [sizeLine_eq]; decide)) | (with_reducible refine wpAny_letGo ?_) | simp only [Bool.false_eq_true, if_false] | wp_step | dsimp only)
  all_goals (try exact hq)
theorem erase_last {α : Type} (xs : Array α) (v : α) : (xs.push v).eraseIdxIfInBounds xs.size = xs := by
  unfold Array.eraseIdxIfInBounds
  rw [dif_pos (by simp)]
  apply Array.ext'
  rw [Array.toList_eraseIdx, Array.toList_push]
  have : xs.size = xs.toList.length := by simp
  rw [this, List.eraseIdx_append_of_length_le (Nat.le_refl _), Nat.sub_self]
  simp
theorem run_pop {x : Addr} {ox : Obj} {xs : Array Value} {v : Value} {n : Nat} {Q : Fin → Shared → Prop} (hx : s.heap.get? x = some ox) (hd : ox.data = .seq (xs.push v) n) (hz : xs.size ≤ 1000)
    (hq : Q (.done (.ret v)) { s with heap := s.heap.update x (Obj.mapSeq (·.eraseIdxIfInBounds xs.size)) }) : wpAny (model prog w) A (Builtin.«list.pop» ⟨[.ref x], []⟩) Q E s := by
  have hs : (xs.push v).isEmpty = false := by simp
  have hi : ((seqIndex? (-1) (xs.push v).size).bind fun k => (xs.push v)[k]?.map (k, ·)) = some (xs.size, v) := by
    have e : (if (-1 : Int) < 0 then (-1 : Int) + ((xs.push v).size : Int) else -1) = (xs.size : Int) := by rw [if_pos (by decide), Array.size_push]; omega
    unfold seqIndex?
    simp only [e]
    rw [decide_eq_true (by omega), decide_eq_true (by rw [Array.size_push]; omega)]
    simp
  obtain ⟨hh, g, d, t, os⟩ := s
  unfold Builtin.«list.pop»
  repeat (first | (with_reducible refine wpAny_seqItems hx hd ?_) | (with_reducible refine wpAny_updateSeq hx hd ?_ (by rw [sizeLine_eq, Array.size_push]; omega) (by rw [sizeLine_eq, erase_last]; omega)) | simp only [hs, hi, Bool.false_eq_true, if_false] | wp_step | dsimp only)
  all_goals (try exact hq)
end
end Mine
end SecLRun
set_option maxRecDepth 100000
set_option maxHeartbeats 8000000
set_option Elab.async false
set_option linter.unusedVariables false
set_option linter.unusedSimpArgs false
open PySem PySem.W PySem.Calls PyProof.Rows PySem.Spec
noncomputable section SecAccR
namespace Mine
variable {w : World} {mean : ExcName → Option Value} {mg mb : Str → Option Value}
theorem regAccR : Kf = Kf ∧ PySem.Challenge.rw_xn0003_01 = PySem.Challenge.rw_xn0003_01 := by
  k_fill
  try (walk1; fail "looked")
  exact ⟨rfl, rfl⟩
section
variable {prog : Program} {w : World} {M : Model} {A : Around} {E : Value → Shared → Prop} {h : Heap} {g : Array GenState} {d : Drawn} {t : Nat} {os : OsState}
theorem super_getM {so : Addr} {o : Obj} {name : Str} {pl : Sem Bool} {Q : Value × List Value → Shared → Prop} (hso : ∃ o, h.get? so = some o ∧ o.cls = .type "super")
    (hga : ∀ t', wpAny (model prog w) A.in1 (Builtin.«super.__getattribute__» ⟨[.ref so, .str name t'], []⟩) (fun fin s' => ∃ v, fin = .done (.ret v) ∧ (v = .ref h.objs.size ∧ s' = ⟨h.push o, g, d, t + 1, os⟩)) (fun _ _ => False) ⟨h, g, d, t + 1, os⟩)
    (hq : Q (.ref h.objs.size, []) ⟨h.push o, g, d, t + 1, os⟩) :
    wpAny (model prog w) A (getMethod (.ref so) name pl) Q E ⟨h, g, d, t, os⟩ := by
  have hlk := PySem.F.ks_slot_super_ga.lookup
  have hcan := PySem.F.ks_canon_super_ga
  obtain ⟨oso, hso, hsc⟩ := hso
  have hT : ∀ t', (⟨h, g, d, t', os⟩ : Shared).TypeIs (.ref so) "super" := fun _ => ⟨_, hso, hsc⟩
  unfold getMethod
  refine wpAny_bind (wpAny_specialOf (hT _) hlk ?_)
  show wpAny _ _ (if (Manifest.canonical "super.__getattribute__" != "object.__getattribute__") = true then _ else _) _ _ _
  rw [if_pos hcan]
  unfold getAttr getAttrBy
  refine wpAny_bind (wpAny_bind (wpAny_mkText (wpAny_holding (wpAny_bind (wpAny_typeOf (hT _) (wpAny_bind (wpAny_of_eq hlk ?_)))))))
  show wpAny _ _ (getAttrByItsOwn (.ref so) (.str name t) (.type "super") (.builtin "super.__getattribute__") true false) _ _ _
  unfold getAttrByItsOwn hookBefore callGetattribute boundAndCalled
  refine wpAny_bind (wpAny_of_eq (show (if onTheHeap (.type "super") then typeLookup (.type "super") "__getattr__" else pure none) = pure none from rfl) ?_)
  refine wpAny_bind (wpAny_attempt (wpAny_holding ?_))
  show wpAny _ _ (bindSpecial (.builtin "super.__getattribute__") (.ref so) >>= _) _ _ _
  refine wpAny_bind (wpAny_of_eq (PySem.F.ks_slot_super_ga.bind _) ?_)
  refine wpAny_mono (Q := fun v s' => v = Value.ref h.objs.size ∧ s' = ⟨h.push o, g, d, t + 1, os⟩) (E := fun _ _ => False)
    (wpAny_call_entry PySem.F.ks_slot_super_ga (hT _) PySem.F.ks_entry_super_ga (hga t) (PySem.F.ks_gaArgs_super _ _)) (fun v s' hv => ?_) fun _ _ z => z.elim
  obtain ⟨rfl, rfl⟩ := hv
  exact wpAny_pure (wpAny_pure hq)
end
section
variable {prog : Program} {w : World} {A : Around} {E : Value → Shared → Prop} {s : Shared} {h₀ : Heap} {L : Addr} {m : Str → Option Value} {news : List (Addr × Obj)} {K : Frag} {x C D so : Addr} {ox : Obj} {odx : Option Obj}
noncomputable abbrev boundObj (bT bid : String) (x : Addr) : Obj := { cls := .type bT, data := .fields #[.builtin bid, .ref x] }
theorem super_methodB {name : Str} {bid dT gid bT : String} {Bg : Builtin} {pl : Sem Bool} {Q : Value × List Value → Shared → Prop} (F : Fr h₀ L s.heap m) (X₀ : K.In h₀) (N : News h₀ L s.heap news) (hso : (so, ks_superObj D x C) ∈ news) (I : InstAt s.heap x ox C odx)
    (ho : nsIn K cStatics "thirdparty.any" = some none) (hm : ks_superIn K C D name = some (some (.builtin bid))) (hn : (name == ("__class__" : Str)) = false) (hsub : mroIn K C (.type "list") = some true)
    (hTf : typeOf (.builtin bid) = pure (.type dT)) (Sg : Slot dT "__get__" gid) (eg : entryFor table gid = some Bg) (ag : ∀ a b c, argsOk gid ⟨[a, b, c], []⟩)
    (hBg : ∀ (h : Heap) (g : Array GenState) (d : Drawn) (t : Nat) (os : OsState) (A' : Around) (E' : Value → Shared → Prop) (Q' : Fin → Shared → Prop), h.get? x = some ox → Looks (model prog w) h (isSubtype (.ref C) (.type "list")) true →
      Q' (.done (.ret (.ref h.objs.size))) ⟨h.push (boundObj bT bid x), g, d, t, os⟩ → wpAny (model prog w) A' (Bg ⟨[.builtin bid, .ref x, .ref C], []⟩) Q' E' ⟨h, g, d, t, os⟩)
    (hfr : (boundObj bT bid x).isFreed = false)
    (h : ∀ q h', Fr h₀ L h' m → News h₀ L h' ((q, boundObj bT bid x) :: news) → (∀ p ∈ news, p.1 < q) → Q (.ref q, []) { s with heap := h', toks := s.toks + 1 }) : wpAny (model prog w) A (getMethod (.ref so) name pl) Q E s := by
  have X : K.In s.heap := X₀.keeps F.keep
  obtain ⟨hh, g, d, t, os⟩ := s
  cases hc : clsIn K C with
  | none => unfold ks_superIn at hm; rw [hc] at hm; cases hm
  | some cd =>
    unfold ks_superIn at hm
    rw [hc] at hm
    have hso' := (N _ hso).1
    have hS : Looks (model prog w) hh (isSubtype (.ref C) (.type "list")) true := looks_mroIn X hsub
    refine super_getM (o := boundObj bT bid x) ⟨_, hso', rfl⟩ (fun t' => ?_) ?_
    · refine super_gaB (ox := ox) hso' (looks_opaque X ho) (l₀ := cd.mro) ?_ rfl X hm (ks_ne X I hc) hn hTf Sg eg ag (fun A' E' Q' hq' => hBg _ _ _ _ _ _ _ _ I.at_ hS hq') ⟨_, rfl, rfl, rfl⟩
      exact fun A Q E s k q => wpAny_bind ((looks_clsIn X hc) A _ E s k (wpAny_pure q))
    · obtain ⟨F', N', l'⟩ := ks_newsPush (s := ⟨hh, g, d, t, os⟩) (o := boundObj bT bid x) F N rfl (Heap.get?_push_at rfl hfr) (fun b o e => Heap.get?_push_of_some _ e)
      exact h _ _ F' N' l'
theorem call_boundB {q : Addr} {bT bid : String} {B : Builtin} {Q : Value → Shared → Prop} (hq : s.heap.get? q = some (boundObj bT bid x)) (hbT : (Value.type bT == Value.type "method" || Value.type bT == Value.type "builtin_function_or_method" || Value.type bT == Value.type "method-wrapper") = true) (hnm : (Value.type bT != Value.type "method") = true)
    (hp : plainId bid = true) (hb : entryFor table bid = some B) (hc : ∀ (A' : Around) (E' : Value → Shared → Prop) (Q' : Unit → Shared → Prop), Q' () s → wpAny (model prog w) A' (checkBoundCall bid ⟨[.ref x], []⟩) Q' E' s)
    (hB : wpAny (model prog w) A.in1 (B ⟨[.ref x], []⟩) (fun fin s' => ∃ v, fin = .done (.ret v) ∧ Q v s') E s) : wpAny (model prog w) A (call (.ref q) [] []) Q E s := by
  refine wpAny_call (codeAny_of_tree ?_)
  show wpAny _ _ (callAny (.ref q) _) _ _ _
  unfold callAny
  refine wpAny_bind (wpAny_load hq ?_)
  show wpAny _ _ (if (Value.type bT == Value.type "method" || Value.type bT == Value.type "builtin_function_or_method" || Value.type bT == Value.type "method-wrapper") = true then _ else _) _ _ _
  rw [if_pos hbT]
  show wpAny _ _ (if (Value.type bT != Value.type "method") = true then (do checkBoundCall bid ⟨[.ref x], []⟩; again (.builtin bid ⟨[.ref x], []⟩)) else _) _ _ _
  rw [if_pos hnm]
  refine wpAny_bind (hc _ _ _ ?_)
  refine wpAny_pure ⟨plainId_quiet hp _, codeAny_builtin hb ?_⟩
  rw [Around.under_plainId hp _]
  refine wpAny_mono hB (fun fin s' h' => ?_) fun _ _ z => z
  obtain ⟨v, rfl, hv⟩ := h'
  exact hv
end
end Mine
end SecAccR
set_option maxRecDepth 100000
set_option maxHeartbeats 8000000
set_option Elab.async false
set_option linter.unusedVariables false
set_option linter.unusedSimpArgs false
open PySem PySem.W PySem.Calls PyProof.Rows PySem.Spec
noncomputable section SecAccG
namespace Mine
variable {w : World} {mean : ExcName → Option Value} {mg mb : Str → Option Value}
theorem regAccG : Kf = Kf ∧ PySem.Challenge.rw_xn0003_01 = PySem.Challenge.rw_xn0003_01 := by
  k_fill
  try (walk1; fail "looked")
  exact ⟨rfl, rfl⟩
theorem canon_list_ga : (Manifest.canonical "list.__getattribute__" != "object.__getattribute__") = false := by decide +kernel
section
variable {prog : Program} {w : World} {A : Around} {E : Value → Shared → Prop} {s : Shared} {h₀ : Heap} {L : Addr} {m : Str → Option Value} {news news' : List (Addr × Obj)} {K : Frag} {x C D so : Addr} {ox : Obj} {es : List DictEntry} {n : Nat} {name : Str} {pl : Sem Bool}
theorem method_L {f : Value} {tf : Value} {Q : Value × List Value → Shared → Prop} (F : Fr h₀ L s.heap m) (X₀ : K.In h₀) (I : InstAt s.heap x ox C (some (dictOf es n))) (hga : findIn K (.ref C) "__getattribute__" = some (some (.builtin "list.__getattribute__"))) (hk : findIn K (.ref C) "__getattr__" = some none)
    (hf : findIn K (.ref C) name = some (some f)) (ht : typeIn K f = some tf) (htf : (tf != .type "function" && tf != .type "method_descriptor" && tf != .type "wrapper_descriptor") = false) (hl : getL name es = some none) (h : Q (f, [.ref x]) s) :
    wpAny (model prog w) A (getMethod (.ref x) name pl) Q E s := by
  have X := X₀.keeps F.keep
  have hcan := canon_list_ga
  have hs : (lookIn name (dictOf es n)) = some none := by rw [lookIn_dict, hl]
  unfold getMethod specialOf
  refine wpAny_bind (wpAny_bind (I.type.here ((looks_findIn X hga).here ?_)))
  dsimp only
  rw [hcan, if_neg (by decide)]
  refine wpAny_bind (wpAny_bind (I.type.here ((looks_findIn X hk).here ?_)))
  refine wpAny_bind (wpAny_bind (I.type.here ((looks_findIn X hf).here (wpAny_bind ((looks_typeIn X ht).here ?_)))))
  rw [htf, if_neg (by decide)]
  refine wpAny_bind (wpAny_loadPart I.at_ ?_)
  have hd := I.dict
  cases e : ox.dict with
  | none => exact wpAny_bind (wpAny_rule (wpAny_pure h))
  | some dx =>
    rw [e] at hd
    refine wpAny_bind (wpAny_bind (wpAny_loadPart hd ?_))
    rw [nsLook_of hs]
    refine wpAny_pure ?_
    exact wpAny_bind (wpAny_rule (wpAny_pure h))
theorem bc_len (x : Value) : checkBoundCall "list.__len__" ⟨[x], []⟩ = pure () := by kernel_rfl
theorem bc_init (x : Value) : checkBoundCall "list.__init__" ⟨[x], []⟩ = pure () := by kernel_rfl
theorem pop_kind : builtinKind "list.pop" = some .method := by decide +kernel
theorem pop_var : Manifest.varargsMethods.contains "list.pop" = false := by decide +kernel
theorem app_kind : builtinKind "list.append" = some .method := by decide +kernel
theorem app_split : splitId "list.append" = some ("list", "append") := by decide +kernel
theorem app_args (x v : Value) : (match Manifest.signature? "list.append" with | some sig => Bind.checkArgs "list.append" sig ⟨[x, v], []⟩ | _ => pure ()) = pure () := by kernel_rfl
theorem entry_l_len : entryFor table "list.__len__" = some Builtin.«list.__len__» := entryFor_of_tree (by kernel_rfl)
theorem entry_l_init : entryFor table "list.__init__" = some Builtin.«list.__init__» := entryFor_of_tree (by kernel_rfl)
theorem entry_l_pop : entryFor table "list.pop" = some Builtin.«list.pop» := entryFor_of_tree (by kernel_rfl)
theorem entry_l_append : entryFor table "list.append" = some Builtin.«list.append» := entryFor_of_tree (by kernel_rfl)
theorem pop_has : (Manifest.signature? "list.pop").isSome = true := by decide +kernel
noncomputable def popSig : Manifest.Signature := (Manifest.signature? "list.pop").get pop_has
theorem pop_sig1 : Manifest.signature? "list.pop" = some popSig := (Option.some_get pop_has).symm
theorem pop_sig2 (x : Value) : Bind.checkArgs "list.pop" { popSig with full := toString (Str.ofString "_Accumulator").toString ++ toString "." ++ toString (Bind.lastOf "list.pop") } ⟨[x], []⟩ = pure () := by kernel_rfl
theorem check_append {v : Value} {Q : Unit → Shared → Prop} (hi : Looks (model prog w) s.heap (isInstance (.ref x) (.type "list")) true) (q : Q () s) :
    wpAny (model prog w) A (checkBuiltinCall "list.append" ⟨[.ref x, v], []⟩) Q E s := by
  have ha := app_args (.ref x) v
  simp only [checkBuiltinCall, app_kind, app_split]
  refine wpAny_bind (hi.here ?_)
  simp only [Bool.not_true, Bool.false_eq_true, if_false]
  exact wpAny_of_eq ha q
theorem check_pop {Q : Unit → Shared → Prop} (X : K.In s.heap) (I : InstAt s.heap x ox C (some (dictOf es n))) (hm : mroIn K C (.type "module") = some false) (ht : typeIn K (.ref C) = some (.type "type")) (hc : (clsIn K C).map (·.qualname) = some (Str.ofString "_Accumulator")) (q : Q () s) :
    wpAny (model prog w) A (checkBoundCall "list.pop" ⟨[.ref x], []⟩) Q E s := by
  have hs := pop_sig1
  obtain ⟨cd, hcd, hqn⟩ := Option.map_eq_some_iff.mp hc
  have hmod : Looks (model prog w) s.heap (isInstance (.ref x) (.type "module")) false := I.type.andThen (looks_mroIn X hm)
  obtain ⟨hh, g, d, t, os⟩ := s
  unfold checkBoundCall
  simp only [hs, pop_kind, pop_var]
  rw [if_neg (by decide)]
  refine wpAny_bind (hmod.here ?_)
  simp only [Bool.or_false, Bool.false_eq_true, if_false]
  refine wpAny_bind (ks_wpAny_isType_inst I.at_ (fun c e => ?_) ?_)
  · have := I.no
    unfold notCls at this
    rw [e] at this
    exact Bool.noConfusion this
  simp only [Bool.false_eq_true, if_false]
  refine wpAny_bind (I.type.here ?_)
  dsimp only
  refine wpAny_bind ((looks_clsIn X hcd).here ?_)
  rw [hqn]
  refine wpAny_bind ((looks_typeIn X ht).here ?_)
  rw [if_pos (by decide +kernel)]
  exact wpAny_of_eq (pop_sig2 _) q
end
end Mine
end SecAccG
set_option maxRecDepth 100000
set_option maxHeartbeats 8000000
set_option Elab.async false
set_option linter.unusedVariables false
set_option linter.unusedSimpArgs false
open PySem PySem.W PySem.Calls PyProof.Rows PySem.Spec
noncomputable section SecAccS
namespace Mine
variable {w : World} {mean : ExcName → Option Value} {mg mb : Str → Option Value}
theorem regAccS : Kf = Kf ∧ PySem.Challenge.rw_xn0003_01 = PySem.Challenge.rw_xn0003_01 := by
  k_fill
  try (walk1; fail "looked")
  exact ⟨rfl, rfl⟩
theorem ms_push {C dx : Addr} {xs : Array Value} {k : Nat} {v : Value} : Obj.mapSeq (·.push v) (accObj C dx xs k) = accObj C dx (xs.push v) (k + 1) := by
  show ({ cls := .ref C, dict := some dx, data := .seq (xs.push v) (if (xs.push v).size == xs.size then k else k + 1) } : Obj) = _
  have e : ((xs.push v).size == xs.size) = false := by rw [Array.size_push]; exact beq_eq_false_iff_ne.mpr (by omega)
  rw [e]; rfl
theorem ms_pop {C dx : Addr} {xs : Array Value} {k : Nat} {v : Value} : Obj.mapSeq (·.eraseIdxIfInBounds xs.size) (accObj C dx (xs.push v) k) = accObj C dx xs (k + 1) := by
  show ({ cls := .ref C, dict := some dx, data := .seq ((xs.push v).eraseIdxIfInBounds xs.size) (if ((xs.push v).eraseIdxIfInBounds xs.size).size == (xs.push v).size then k else k + 1) } : Obj) = _
  have e : (xs.size == (xs.push v).size) = false := by rw [Array.size_push]; exact beq_eq_false_iff_ne.mpr (by omega)
  rw [erase_last, e]; rfl
section
variable {A : Around} {E : Value → Shared → Prop} {s : Shared} {h₀ : Heap} {L : Addr} {m : Str → Option Value} {news news' : List (Addr × Obj)} {x so dx : Addr} {ox : Obj} {odx : Option Obj} {es : List DictEntry} {n : Nat} {pl : Sem Bool} {xs : Array Value} {k : Nat}
theorem bty_len : typeOf (.builtin "list.__len__") = pure (.type "wrapper_descriptor") := by show builtinType _ = _; rw [builtinType_eq_fast]; kernel_rfl
theorem bty_init : typeOf (.builtin "list.__init__") = pure (.type "wrapper_descriptor") := by show builtinType _ = _; rw [builtinType_eq_fast]; kernel_rfl
theorem bty_pop : typeOf (.builtin "list.pop") = pure (.type "method_descriptor") := by show builtinType _ = _; rw [builtinType_eq_fast]; kernel_rfl
theorem sup_len {Q : Value × List Value → Shared → Prop} (F : Fr h₀ L s.heap m) (X : (Kf w.params).In h₀) (N : News h₀ L s.heap news) (hso : (so, ks_superObj 101 x 101) ∈ news) (I : InstAt s.heap x ox 101 odx)
    (h : ∀ q h', Fr h₀ L h' m → News h₀ L h' ((q, boundObj "method-wrapper" "list.__len__" x) :: news) → (∀ p ∈ news, p.1 < q) → Q (.ref q, []) { s with heap := h', toks := s.toks + 1 }) : wpAny (model pw w) A (getMethod (.ref so) (Str.ofString "__len__") pl) Q E s :=
  super_methodB F X N hso I (by kernel_rfl) (by kernel_rfl) (by decide) (by kernel_rfl) bty_len slot_wd_get entry_wd_get args_wd_get (fun _ _ _ _ _ _ _ _ e hS hq => wd_get own_len e I.cls hS hq) rfl h
theorem sup_init {Q : Value × List Value → Shared → Prop} (F : Fr h₀ L s.heap m) (X : (Kf w.params).In h₀) (N : News h₀ L s.heap news) (hso : (so, ks_superObj 101 x 101) ∈ news) (I : InstAt s.heap x ox 101 odx)
    (h : ∀ q h', Fr h₀ L h' m → News h₀ L h' ((q, boundObj "method-wrapper" "list.__init__" x) :: news) → (∀ p ∈ news, p.1 < q) → Q (.ref q, []) { s with heap := h', toks := s.toks + 1 }) : wpAny (model pw w) A (getMethod (.ref so) (Str.ofString "__init__") pl) Q E s :=
  super_methodB F X N hso I (by kernel_rfl) (by kernel_rfl) (by decide) (by kernel_rfl) bty_init slot_wd_get entry_wd_get args_wd_get (fun _ _ _ _ _ _ _ _ e hS hq => wd_get own_init e I.cls hS hq) rfl h
theorem sup_pop {Q : Value × List Value → Shared → Prop} (F : Fr h₀ L s.heap m) (X : (Kf w.params).In h₀) (N : News h₀ L s.heap news) (hso : (so, ks_superObj 101 x 101) ∈ news) (I : InstAt s.heap x ox 101 odx)
    (h : ∀ q h', Fr h₀ L h' m → News h₀ L h' ((q, boundObj "builtin_function_or_method" "list.pop" x) :: news) → (∀ p ∈ news, p.1 < q) → Q (.ref q, []) { s with heap := h', toks := s.toks + 1 }) : wpAny (model pw w) A (getMethod (.ref so) (Str.ofString "pop") pl) Q E s :=
  super_methodB F X N hso I (by kernel_rfl) (by kernel_rfl) (by decide) (by kernel_rfl) bty_pop slot_md_get entry_md_get args_md_get (fun _ _ _ _ _ _ _ _ e hS hq => md_get own_pop (by decide +kernel) e I.cls hS hq) rfl h
theorem run_supLen {q : Addr} {Q : Value → Shared → Prop} (N : News h₀ L s.heap news) (hq : (q, boundObj "method-wrapper" "list.__len__" x) ∈ news) (hm : (x, accObj 101 dx xs k) ∈ news) (hz : xs.size ≤ 1000)
    (h : ∀ t tk, Q (.int (xs.size : Int) t) { s with toks := tk }) : wpAny (model pw w) A (call (.ref q) [] []) Q E s :=
  call_boundB (N _ hq).1 (by decide) (by decide) (by decide +kernel) entry_l_len (fun _ _ _ q => wpAny_of_eq (bc_len _) q) (run_len (N _ hm).1 rfl hz fun t tk => ⟨_, rfl, h t tk⟩)
theorem run_supInit {q : Addr} {Q : Value → Shared → Prop} (F : Fr h₀ L s.heap m) (N : News h₀ L s.heap news) (hq : (q, boundObj "method-wrapper" "list.__init__" x) ∈ news) (U : Upd x (accObj 101 dx #[] k) (accObj 101 dx #[] k) news news')
    (h : ∀ h', Fr h₀ L h' m → News h₀ L h' news' → Q .none { s with heap := h' }) : wpAny (model pw w) A (call (.ref q) [] []) Q E s := by
  obtain ⟨pre, post, rfl, rfl, a, b⟩ := U.split
  have U2 := news_upd (f := Obj.mapSeq fun _ => #[]) (o' := accObj 101 dx #[] k) F N a b rfl rfl
  exact call_boundB (N _ hq).1 (by decide) (by decide) (by decide +kernel) entry_l_init (fun _ _ _ q => wpAny_of_eq (bc_init _) q) (run_init (N (x, accObj 101 dx #[] k) (by simp)).1 rfl ⟨_, rfl, h _ U2.1 U2.2⟩)
theorem run_supPop {q : Addr} {v : Value} {Q : Value → Shared → Prop} (F : Fr h₀ L s.heap m) (X : (Kf w.params).In h₀) (N : News h₀ L s.heap news) (hq : (q, boundObj "builtin_function_or_method" "list.pop" x) ∈ news) (hd : (dx, dictOf es n) ∈ news) (U : Upd x (accObj 101 dx (xs.push v) k) (accObj 101 dx xs (k + 1)) news news') (hz : xs.size ≤ 1000)
    (h : ∀ h', Fr h₀ L h' m → News h₀ L h' news' → Q v { s with heap := h' }) : wpAny (model pw w) A (call (.ref q) [] []) Q E s := by
  obtain ⟨pre, post, rfl, rfl, a, b⟩ := U.split
  have hm : (x, accObj 101 dx (xs.push v) k) ∈ pre ++ (x, accObj 101 dx (xs.push v) k) :: post := by simp
  have U2 := news_upd (f := Obj.mapSeq (·.eraseIdxIfInBounds xs.size)) (o' := accObj 101 dx xs (k + 1)) F N a b ms_pop rfl
  exact call_boundB (N _ hq).1 (by decide) (by decide) (by decide +kernel) entry_l_pop (fun _ _ _ q => check_pop (X.keeps F.keep) (inst_newsL N hm hd) (by kernel_rfl) (by kernel_rfl) (by kernel_rfl) q) (run_pop (N _ hm).1 rfl hz ⟨_, rfl, h _ U2.1 U2.2⟩)
theorem run_append_L {v : Value} {Q : Value → Shared → Prop} (F : Fr h₀ L s.heap m) (X : (Kf w.params).In h₀) (N : News h₀ L s.heap news) (hd : (dx, dictOf es n) ∈ news) (U : Upd x (accObj 101 dx xs k) (accObj 101 dx (xs.push v) (k + 1)) news news') (hz : xs.size ≤ 1000)
    (h : ∀ h', Fr h₀ L h' m → News h₀ L h' news' → Q .none { s with heap := h' }) : wpAny (model pw w) A (call (.builtin "list.append") [.ref x, v] []) Q E s := by
  obtain ⟨pre, post, rfl, rfl, a, b⟩ := U.split
  have hm : (x, accObj 101 dx xs k) ∈ pre ++ (x, accObj 101 dx xs k) :: post := by simp
  have U2 := news_upd (f := Obj.mapSeq (·.push v)) (o' := accObj 101 dx (xs.push v) (k + 1)) F N a b ms_push rfl
  have I := inst_newsL N hm hd
  refine wpAny_call (codeAny_call_builtin (by decide +kernel) entry_l_append (check_append (I.type.andThen (looks_mroIn (X.keeps F.keep) (by kernel_rfl))) ?_))
  exact run_append (N _ hm).1 rfl hz (h _ U2.1 U2.2)
theorem meth_L {f tf : Value} {name : Str} {Q : Value × List Value → Shared → Prop} (F : Fr h₀ L s.heap m) (X : (Kf w.params).In h₀) (N : News h₀ L s.heap news) (hm : (x, accObj 101 dx xs k) ∈ news) (hd : (dx, dictOf es n) ∈ news)
    (hf : findIn (Kf w.params) (.ref 101) name = some (some f)) (ht : typeIn (Kf w.params) f = some tf) (htf : (tf != .type "function" && tf != .type "method_descriptor" && tf != .type "wrapper_descriptor") = false) (hl : getL name es = some none) (h : Q (f, [.ref x]) s) :
    wpAny (model pw w) A (getMethod (.ref x) name pl) Q E s := method_L F X (inst_newsL N hm hd) (by kernel_rfl) (by kernel_rfl) hf ht htf hl h
theorem callWith_W {M : Model} {q : Addr} {bid : String} {pos : Pos} {env : Env} {Q : Value → Shared → Prop} (N : News h₀ L s.heap news) (hq : (q, boundObj "method-wrapper" bid x) ∈ news) (h : wpAny M A (call (.ref q) []) Q E s) :
    wpAny M A (callWith pos (.ref q) [] (backTo pos (starEach [] env)) []) Q E s :=
  callWith_of (P := fun h => h.get? q = some (boundObj "method-wrapper" bid x)) rfl (fun h e => ⟨.machine, .inr (.inl rfl), (Looks.ld (part := none) e).andThen (by exact Looks.now)⟩) (evalArgs_nil3 ⟨(N _ hq).1, h⟩)
theorem callWith_B {M : Model} {q : Addr} {bid : String} {pos : Pos} {env : Env} {Q : Value → Shared → Prop} (N : News h₀ L s.heap news) (hq : (q, boundObj "builtin_function_or_method" bid x) ∈ news) (h : wpAny M A (call (.ref q) []) Q E s) :
    wpAny M A (callWith pos (.ref q) [] (backTo pos (starEach [] env)) []) Q E s :=
  callWith_of (P := fun h => h.get? q = some (boundObj "builtin_function_or_method" bid x)) rfl (fun h e => ⟨.machine, .inr (.inl rfl), (Looks.ld (part := none) e).andThen (by exact Looks.now)⟩) (evalArgs_nil3 ⟨(N _ hq).1, h⟩)
end
end Mine
end SecAccS
set_option maxRecDepth 100000
set_option maxHeartbeats 8000000
set_option Elab.async false
set_option linter.unusedVariables false
set_option linter.unusedSimpArgs false
open PySem PySem.W PySem.Calls PyProof.Rows PySem.Spec
noncomputable section SecAccN
namespace Mine
variable {w : World} {mean : ExcName → Option Value} {mg mb : Str → Option Value}
theorem regAccN : Kf = Kf ∧ PySem.Challenge.rw_xn0003_01 = PySem.Challenge.rw_xn0003_01 := by
  k_fill
  try (walk1; fail "looked")
  exact ⟨rfl, rfl⟩
local macro_rules | `(tactic| k_inst) => `(tactic| (refine' inst_newsL ?N ?h1 ?h2; (case N => k_asm); (case h1 => k_dflt k_memK); (case h2 => first | (k_dflt k_memK; done) | kst_mem)))
local macro_rules | `(tactic| walk_at "setAttr ref") => `(tactic| (k_here; k_dflt (refine' set_dictL ?k1 ?k2 ?k3 ?k4 ?k5 ?k6 ?k7 ?k8 ?k9 ?k10 ?k11 ?k12 ?k13 ?_; (case k1 => k_asm); (case k2 => k_asm); (case k3 => k_asm); (case k4 => k_inst); (case k5 => exact rfl); (case k6 => k_is); (case k7 => kernel_rfl); (case k8 => k_is); (case k9 => k_is); (case k10 => k_get); (case k11 => k_put); (case k12 => k_upd); (case k13 => exact Nat.le_of_ble_eq_true rfl); k_whole; intro h' F' N'; (try k_sweep); (try dsimp only))))
local macro_rules | `(tactic| walk_at "ks enter") => `(tactic| (refine' ks_code_super ?k1 ?k2 ?k3 ?k4 ?k5 ?kA ?kF ?kK ?k6 ?k7 ?k8 ?k9 ?kB ?_ ?c1 ?c2 ?c3 ?c4; (case kA => exact rfl); (case kF => exact rfl); (case kK => first | exact rfl | assumption); (case k1 => k_asm); (case k2 => k_asm); (case k3 => k_asm); (case k4 => k_asm); (case k5 => k_asm); (case k6 => k_is); (case k7 => k_is); (case k8 => ktr_room); (case k9 => first | exact BindsTo.of_eq rfl | exact binds_K (by k_in) rfl (by k_is) rfl rfl rfl); (case kB => exact locs rfl); (case c1 => decide); (case c2 => exact rfl); (case c3 => exact rfl); (case c4 => exact rfl); intro g' L' h' FG' F' N' B' X' T' l1; (try k_lt l1); (try dsimp only); (try k_lift B')))
local macro_rules | `(tactic| walk_at "getMethod ref") => `(tactic| (k_here; k_dflt (first
  | (refine' sup_len ?k1 ?k2 ?k3 ?k4 ?k5 ?_; (case k1 => k_asm); (case k2 => k_asm); (case k3 => k_asm); (case k4 => k_memK); (case k5 => k_inst); intro q' h' F' N' l1; (try k_lt l1); (try dsimp only))
  | (refine' sup_init ?k1 ?k2 ?k3 ?k4 ?k5 ?_; (case k1 => k_asm); (case k2 => k_asm); (case k3 => k_asm); (case k4 => k_memK); (case k5 => k_inst); intro q' h' F' N' l1; (try k_lt l1); (try dsimp only))
  | (refine' sup_pop ?k1 ?k2 ?k3 ?k4 ?k5 ?_; (case k1 => k_asm); (case k2 => k_asm); (case k3 => k_asm); (case k4 => k_memK); (case k5 => k_inst); intro q' h' F' N' l1; (try k_lt l1); (try dsimp only)))))
local macro_rules | `(tactic| walk_at "callWith ref") => `(tactic| (k_here; k_dflt (first
  | (refine' callWith_W ?k1 ?k2 ?_; (case k1 => k_asm); (case k2 => k_memK))
  | (refine' callWith_B ?k1 ?k2 ?_; (case k1 => k_asm); (case k2 => k_memK)))))
local macro_rules | `(tactic| walk_at "callWith") => `(tactic| walk_at "callWith ref")
local macro_rules | `(tactic| walk_at "call ref") => `(tactic| (k_here; k_dflt (first
  | (refine' run_supInit ?k1 ?k2 ?k3 ?k4 ?_; (case k1 => k_asm); (case k2 => k_asm); (case k3 => k_memK); (case k4 => k_upd); intro h' F' N'; (try dsimp only)))))
noncomputable abbrev es0 (P : Params) (tk : Tok) : List DictEntry := [{ hash := PyData.keyHash P (Str.ofString "_initial_size"), key := .str (Str.ofString "_initial_size") tk, val := .int 0 210 }]
theorem acc_new (dp un : Nat) (gd : Option (List Code)) (cn : Str) (cs : Scope) (a : Addr) (ccd : Value) (cl : List (Str × Addr)) (outer : List Env) (A₀ : Around) (base h₀ : Heap) (L : Addr) (m : Str → Option Value) (news : List (Addr × Obj)) (s : Shared) (Q E : Value → Shared → Prop)
   (B : Below A₀ base outer h₀) (F : Fr h₀ L s.heap m) (X : (Kf w.params).In h₀) (N : News h₀ L s.heap news) (T : Top vw (looseW vw lz) mean mg mb h₀) (hk : cs.kind = .function) (hd : dp + 3 < recursionLimit) (hu : un + 100 < cLine)
   (hret : ∀ (x dx : Addr) (tk : Tok) (n : Nat) (h' : Heap) (tk' : Nat), (∀ p ∈ news, p.1 < dx) → dx < x → Fr h₀ L h' m → News h₀ L h' ((x, accObj 101 dx #[]) :: (dx, dictOf (es0 w.params tk) n) :: news) → Q (.ref x) { s with heap := h', toks := tk' }) :
   wpAny (model pw w) (ktrTop dp un gd cn cs L a ccd cl outer) (call (.ref 101) []) Q E s := by
  k_dflt (refine' call_accL ?k1 ?k2 ?k3 ?k4 ?k5 ?k6 ?_; (case k1 => k_asm); (case k2 => k_asm); (case k3 => k_asm); (case k4 => kernel_rfl); (case k5 => k_is); (case k6 => k_is); intro x' d' h' F' N' l1 l2; (try k_lt l1); (try k_lt2 l2))
  have hoff : OwnOff news [x', d'] := offLt (allLt_of l1) (by simp only [List.mem_cons, List.not_mem_nil, or_false]; rintro b (rfl | rfl); exact .inr l2; exact .inl rfl)
  k_dflt walk_at "ks enter"
  conv in fnB _ => whnf
  refine ks_wpAt_execs_cons ?_
  refine wpAt_of_wpAny ?_
  k_steps
  (rename News h₀ L _ (_ :: _) => kN9)
  exact hret x' d' _ _ _ _ l1 l2 (by assumption) (fun p hp => kN9 p (.tail _ (.tail _ hp)))
local macro_rules | `(tactic| walk_at "getMethod ref") => `(tactic| (k_here; k_dflt (refine' meth_L ?k1 ?k2 ?k3 ?k4 ?k5 ?k6 ?k7 ?k8 ?k9 ?_; (case k1 => k_asm); (case k2 => k_asm); (case k3 => k_asm); (case k4 => k_memK); (case k5 => kst_mem); (case k6 => k_is); (case k7 => k_is); (case k8 => decide); (case k9 => rfl); (try dsimp only))))
local macro_rules | `(tactic| walk_at "call builtin:list.append") => `(tactic| (k_here; k_dflt (refine' run_append_L ?k1 ?k2 ?k3 ?k4 ?k5 ?k6 ?_; (case k1 => k_asm); (case k2 => k_asm); (case k3 => k_asm); (case k4 => kst_mem); (case k5 => k_upd); (case k6 => assumption); intro h' F' N'; (try dsimp only))))
/-- push -/
theorem acc_push (dp un : Nat) (gd : Option (List Code)) (cn : Str) (cs : Scope) (a : Addr) (ccd : Value) (cl : List (Str × Addr)) (outer : List Env) (A₀ : Around) (base h₀ : Heap) (L : Addr) (m : Str → Option Value) (R : List (Addr × Obj)) (s : Shared) (x dx : Addr) (xs : Array Value) (k : Nat) (tk : Tok) (n : Nat) (y z : Str) (t u : Tok) (Q E : Value → Shared → Prop)
   (B : Below A₀ base outer h₀) (F : Fr h₀ L s.heap m) (X : (Kf w.params).In h₀) (N : News h₀ L s.heap ((x, accObj 101 dx xs k) :: R)) (T : Top vw (looseW vw lz) mean mg mb h₀) (hk : cs.kind = .function) (hd : dp + 3 < recursionLimit) (hu : un + 100 < cLine)
   (hoff : OwnOff R [x]) (hdx : (dx, dictOf (es0 w.params tk) n) ∈ R) (hz : xs.size ≤ 1000)
   (hret : ∀ (D : Addr) (h' : Heap) (tk' : Nat), (x < D ∧ AllLt D R) → Fr h₀ L h' m → News h₀ L h' ((D, { cls := .type "tuple", data := .seq #[.str y t, .str z u] }) :: (x, accObj 101 dx (xs.push (.ref D)) (k + 1)) :: R) → Q .none { s with heap := h', toks := tk' }) :
   wpAny (model pw w) (ktrTop dp un gd cn cs L a ccd cl outer) (call (.ref 45) [.ref x, .str y t, .str z u]) Q E s := by
  refine wpAny_call ?_
  k_dflt cell_enter
  conv in fnB _ => whnf
  k_steps
  exact hret _ _ _ (by assumption) (by assumption) (by assumption)
local macro_rules | `(tactic| walk_at "call ref") => `(tactic| (k_here; k_dflt (first
  | (refine' run_supLen ?k1 ?k2 ?k3 ?k4 ?_; (case k1 => k_asm); (case k2 => k_memK); (case k3 => k_memK); (case k4 => assumption); intro t' tk'; (try dsimp only))
  | (refine' run_supPop ?k1 ?k2 ?k3 ?k4 ?k5 ?k6 ?k7 ?_; (case k1 => k_asm); (case k2 => k_asm); (case k3 => k_asm); (case k4 => k_memK); (case k5 => kst_mem); (case k6 => k_upd); (case k7 => assumption); intro h' F' N'; (try dsimp only)))))
local macro_rules | `(tactic| walk_at "my super") => `(tactic| (k_dflt (refine ks_node (by k_asm) (by k_asm) (by k_asm) (by k_asm) (by k_is) (by rfl) (by rfl) (by k_inst) (by k_is) (by rfl) (by first | rfl | decide +kernel) (by k_is) (by k_is) (by k_is) (by k_is) (by decide) (by rfl) (by rfl) (by rfl) (by rfl) (by decide +kernel) (by first | boot_by_name | rfl | kernel_rfl) ?_; intro so' h' F' N' l1; (try k_lt l1))))
theorem acc_count (dp un : Nat) (gd : Option (List Code)) (cn : Str) (cs : Scope) (a : Addr) (ccd : Value) (cl : List (Str × Addr)) (outer : List Env) (A₀ : Around) (base h₀ : Heap) (L : Addr) (m : Str → Option Value) (R : List (Addr × Obj)) (s : Shared) (x dx : Addr) (xs : Array Value) (k : Nat) (tk : Tok) (n : Nat) (Q E : Value → Shared → Prop)
   (B : Below A₀ base outer h₀) (F : Fr h₀ L s.heap m) (X : (Kf w.params).In h₀) (N : News h₀ L s.heap ((x, accObj 101 dx xs k) :: R)) (T : Top vw (looseW vw lz) mean mg mb h₀) (hk : cs.kind = .function) (hd : dp + 2 < recursionLimit) (hu : un + 80 < cLine)
   (hoff : OwnOff R [x]) (hdx : (dx, dictOf (es0 w.params tk) n) ∈ R) (hz : xs.size ≤ 1000)
   (hret : ∀ (t : Tok) (h' : Heap) (tk' : Nat), Fr h₀ L h' m → News h₀ L h' ((x, accObj 101 dx xs k) :: R) → Q (.int (xs.size : Int) t) { s with heap := h', toks := tk' }) :
   wpAny (model pw w) (ktrTop dp un gd cn cs L a ccd cl outer) (call (.ref 98) [.ref x]) Q E s := by
  refine wpAny_call ?_
  k_dflt walk_at "ks enter"
  conv in fnB _ => whnf
  refine ks_wpAt_execs_cons ?_
  refine ks_wpAt_Return_some ?_
  refine ks_wpAt_MethodCall ?_
  walk_at "my super"
  k_steps
  (rename News h₀ L _ (_ :: _) => kN9)
  exact hret _ _ _ (by assumption) (fun p hp => kN9 p (by first | exact hp | exact .tail _ hp | exact .tail _ (.tail _ hp)))
local macro_rules | `(tactic| walk_at "call ref") => `(tactic| (k_here; k_dflt (refine' acc_count _ _ _ _ _ _ _ _ _ _ _ _ _ _ _ _ _ _ _ _ _ _ _ _ ?b ?f ?x ?n ?t ?k ?d ?u ?o ?dx ?z ?_; (case b => k_asm); (case f => k_asm); (case x => k_asm); (case n => k_asm); (case t => k_asm); (case k => first | exact rfl | assumption); (case d => ktr_room); (case u => ktr_units); (case o => assumption); (case dx => assumption); (case z => assumption)); intro t9 h9 tk9 F9 N9; (try dsimp only)))
local macro_rules | `(tactic| walk_at "wpAt") => `(tactic| refine Stop.go ?_)
theorem acc_pop0 (dp un : Nat) (gd : Option (List Code)) (cn : Str) (cs : Scope) (a : Addr) (ccd : Value) (cl : List (Str × Addr)) (outer : List Env) (A₀ : Around) (base h₀ : Heap) (L : Addr) (m : Str → Option Value) (R : List (Addr × Obj)) (s : Shared) (x dx : Addr) (k : Nat) (tk : Tok) (n : Nat) (Q E : Value → Shared → Prop)
   (B : Below A₀ base outer h₀) (F : Fr h₀ L s.heap m) (X : (Kf w.params).In h₀) (N : News h₀ L s.heap ((x, accObj 101 dx #[] k) :: R)) (T : Top vw (looseW vw lz) mean mg mb h₀) (hk : cs.kind = .function) (hd : dp + 3 < recursionLimit) (hu : un + 100 < cLine)
   (hoff : OwnOff R [x]) (hdx : (dx, dictOf (es0 w.params tk) n) ∈ R)
   (hret : ∀ (D : Addr) (t1 t2 : Tok) (h' : Heap) (tk' : Nat), (x < D ∧ AllLt D R) → Fr h₀ L h' m → News h₀ L h' ((D, { cls := .type "tuple", data := .seq #[.str Str.empty t1, .str Str.empty t2] }) :: (x, accObj 101 dx #[] k) :: R) → Q (.ref D) { s with heap := h', toks := tk' }) :
   wpAny (model pw w) (ktrTop dp un gd cn cs L a ccd cl outer) (call (.ref 61) [.ref x]) Q E s := by
  have hz : (#[] : Array Value).size ≤ 1000 := by decide
  refine wpAny_call ?_
  k_dflt walk_at "ks enter"
  conv in fnB _ => whnf
  refine ks_wpAt_execs_cons ?_
  refine ks_wpAt_If ?_
  refine wpAt_of_wpAny ?_
  k_steps
  unfold Stop
  refine wpAt_of_wpAny ?_
  k_steps
  exact hret _ _ _ _ _ (by assumption) (by assumption) (by assumption)
theorem acc_pop1 (dp un : Nat) (gd : Option (List Code)) (cn : Str) (cs : Scope) (a : Addr) (ccd : Value) (cl : List (Str × Addr)) (outer : List Env) (A₀ : Around) (base h₀ : Heap) (L : Addr) (m : Str → Option Value) (R : List (Addr × Obj)) (s : Shared) (x dx : Addr) (xs : Array Value) (v : Value) (k : Nat) (tk : Tok) (n : Nat) (Q E : Value → Shared → Prop)
   (B : Below A₀ base outer h₀) (F : Fr h₀ L s.heap m) (X : (Kf w.params).In h₀) (N : News h₀ L s.heap ((x, accObj 101 dx (xs.push v) k) :: R)) (T : Top vw (looseW vw lz) mean mg mb h₀) (hk : cs.kind = .function) (hd : dp + 3 < recursionLimit) (hu : un + 100 < cLine)
   (hoff : OwnOff R [x]) (hdx : (dx, dictOf (es0 w.params tk) n) ∈ R) (hz9 : xs.size < 1000)
   (hret : ∀ (h' : Heap) (tk' : Nat), Fr h₀ L h' m → News h₀ L h' ((x, accObj 101 dx xs (k + 1)) :: R) → Q v { s with heap := h', toks := tk' }) :
   wpAny (model pw w) (ktrTop dp un gd cn cs L a ccd cl outer) (call (.ref 61) [.ref x]) Q E s := by
  have hz : (xs.push v).size ≤ 1000 := by rw [Array.size_push]; omega
  have hz2 : xs.size ≤ 1000 := by omega
  refine wpAny_call ?_
  k_dflt walk_at "ks enter"
  conv in fnB _ => whnf
  refine ks_wpAt_execs_cons ?_
  refine ks_wpAt_If ?_
  refine wpAt_of_wpAny ?_
  k_steps
  · rename_i hc
    rw [Array.size_push] at hc
    omega
  · unfold Stop
    refine wpAt_of_wpAny ?_
    k_steps
    unfold Stop
    refine ks_wpAt_execs_cons ?_
    refine ks_wpAt_Return_some ?_
    refine ks_wpAt_MethodCall ?_
    walk_at "my super"
    k_steps
    (rename News h₀ L _ (_ :: _) => kN9)
    exact hret _ _ (by assumption) (fun p hp => kN9 p (.tail _ (.tail _ hp)))
end Mine
end SecAccN
set_option maxRecDepth 100000
set_option maxHeartbeats 8000000
set_option Elab.async false
set_option linter.unusedVariables false
set_option linter.unusedSimpArgs false
open PySem PySem.W PySem.Calls PyProof.Rows PySem.Spec
noncomputable section SecAccU
namespace Mine
variable {w : World} {mean : ExcName → Option Value} {mg mb : Str → Option Value}
theorem regAccU : Kf = Kf ∧ PySem.Challenge.rw_xn0003_01 = PySem.Challenge.rw_xn0003_01 := by
  k_fill
  try (walk1; fail "looked")
  exact ⟨rfl, rfl⟩
section
variable {h₀ h : Heap} {L x dx : Addr} {news : List (Addr × Obj)} {g : Obj → List (Addr × Obj)} {o o' : Obj}
theorem updF_open (U : UpdF x o news g) : ∃ R, OwnOff R [x] ∧ (∀ p ∈ R, p ∈ news) ∧ (x, o) ∈ news ∧ (∀ p ∈ news, p = (x, o) ∨ p ∈ R) ∧ ∀ o', ∀ p ∈ g o', p = (x, o') ∨ p ∈ R := by
  obtain ⟨pre, post, rfl, hg, h1, h2⟩ := U.split
  refine ⟨pre ++ post, fun p hp b hb => ?_, fun p hp => ?_, by simp, fun p hp => ?_, fun o' p hp => ?_⟩
  · rw [List.mem_singleton.mp hb]
    rcases List.mem_append.mp hp with hp | hp
    · exact h1 p hp
    · exact h2 p hp
  · rcases List.mem_append.mp hp with hp | hp
    · exact List.mem_append.mpr (.inl hp)
    · exact List.mem_append.mpr (.inr (.tail _ hp))
  · rcases List.mem_append.mp hp with hp | hp
    · exact .inr (List.mem_append.mpr (.inl hp))
    · rcases List.mem_cons.mp hp with hp | hp
      · exact .inl hp
      · exact .inr (List.mem_append.mpr (.inr hp))
  · rw [hg] at hp
    rcases List.mem_append.mp hp with hp | hp
    · exact .inr (List.mem_append.mpr (.inl hp))
    · rcases List.mem_cons.mp hp with hp | hp
      · exact .inl hp
      · exact .inr (List.mem_append.mpr (.inr hp))
end
theorem dict_not_acc {x dx d2 : Addr} {es : List DictEntry} {n k : Nat} {xs : Array Value} (h : ((d2, dictOf es n) : Addr × Obj) = (x, accObj 101 dx xs k)) : False := by
  have h1 := congrArg (fun p => p.2.cls) h
  simp only [dictOf] at h1
  cases h1
theorem accU_push (dp un : Nat) (gd : Option (List Code)) (cn : Str) (cs : Scope) (a : Addr) (ccd : Value) (cl : List (Str × Addr)) (outer : List Env) (A₀ : Around) (base h₀ : Heap) (L : Addr) (m : Str → Option Value) (news : List (Addr × Obj)) (g : Obj → List (Addr × Obj)) (s : Shared) (x dx : Addr) (xs : Array Value) (k : Nat) (tk : Tok) (n : Nat) (y z : Str) (t u : Tok) (Q E : Value → Shared → Prop)
   (B : Below A₀ base outer h₀) (F : Fr h₀ L s.heap m) (X : (Kf w.params).In h₀) (N : News h₀ L s.heap news) (T : Top vw (looseW vw lz) mean mg mb h₀) (hk : cs.kind = .function) (hd : dp + 3 < recursionLimit) (hu : un + 100 < cLine)
   (U : UpdF x (accObj 101 dx xs k) news g) (hdx : (dx, dictOf (es0 w.params tk) n) ∈ news) (hz : xs.size ≤ 1000)
   (hret : ∀ (D : Addr) (h' : Heap) (tk' : Nat), (∀ p ∈ news, p.1 < D) → Fr h₀ L h' m → News h₀ L h' ((D, { cls := .type "tuple", data := .seq #[.str y t, .str z u] }) :: g (accObj 101 dx (xs.push (.ref D)) (k + 1))) → Q .none { s with heap := h', toks := tk' }) :
   wpAny (model pw w) (ktrTop dp un gd cn cs L a ccd cl outer) (call (.ref 45) [.ref x, .str y t, .str z u]) Q E s := by
  obtain ⟨R, hoff, hR, hx, hs, hg⟩ := updF_open U
  refine acc_push dp un gd cn cs a ccd cl outer A₀ base h₀ L m R s x dx xs k tk n y z t u Q E B F X (fun p hp => N p ((List.mem_cons.mp hp).elim (fun e => e ▸ hx) (hR p))) T hk hd hu hoff ((hs _ hdx).elim (fun e => (dict_not_acc e).elim) id) hz fun D h' tk' hl F' N' => ?_
  refine hret D h' tk' (fun p hp => (hs p hp).elim (fun e => by rw [e]; exact hl.1) (ktn_ltOf hl.2 p)) F' fun p hp => ?_
  rcases List.mem_cons.mp hp with rfl | hp
  · exact N' _ (.head _)
  · rcases hg _ p hp with rfl | hp
    · exact N' _ (.tail _ (.head _))
    · exact N' _ (.tail _ (.tail _ hp))
theorem accU_pop0 (dp un : Nat) (gd : Option (List Code)) (cn : Str) (cs : Scope) (a : Addr) (ccd : Value) (cl : List (Str × Addr)) (outer : List Env) (A₀ : Around) (base h₀ : Heap) (L : Addr) (m : Str → Option Value) (news : List (Addr × Obj)) (g : Obj → List (Addr × Obj)) (s : Shared) (x dx : Addr) (k : Nat) (tk : Tok) (n : Nat) (Q E : Value → Shared → Prop)
   (B : Below A₀ base outer h₀) (F : Fr h₀ L s.heap m) (X : (Kf w.params).In h₀) (N : News h₀ L s.heap news) (T : Top vw (looseW vw lz) mean mg mb h₀) (hk : cs.kind = .function) (hd : dp + 3 < recursionLimit) (hu : un + 100 < cLine)
   (U : UpdF x (accObj 101 dx #[] k) news g) (hdx : (dx, dictOf (es0 w.params tk) n) ∈ news)
   (hret : ∀ (D : Addr) (t1 t2 : Tok) (h' : Heap) (tk' : Nat), (∀ p ∈ news, p.1 < D) → Fr h₀ L h' m → News h₀ L h' ((D, { cls := .type "tuple", data := .seq #[.str Str.empty t1, .str Str.empty t2] }) :: news) → Q (.ref D) { s with heap := h', toks := tk' }) :
   wpAny (model pw w) (ktrTop dp un gd cn cs L a ccd cl outer) (call (.ref 61) [.ref x]) Q E s := by
  obtain ⟨R, hoff, hR, hx, hs, hg⟩ := updF_open U
  refine acc_pop0 dp un gd cn cs a ccd cl outer A₀ base h₀ L m R s x dx k tk n Q E B F X (fun p hp => N p ((List.mem_cons.mp hp).elim (fun e => e ▸ hx) (hR p))) T hk hd hu hoff ((hs _ hdx).elim (fun e => (dict_not_acc e).elim) id) fun D t1 t2 h' tk' hl F' N' => ?_
  refine hret D t1 t2 h' tk' (fun p hp => (hs p hp).elim (fun e => by rw [e]; exact hl.1) (ktn_ltOf hl.2 p)) F' fun p hp => ?_
  rcases List.mem_cons.mp hp with rfl | hp
  · exact N' _ (.head _)
  · rcases hs p hp with rfl | hp
    · exact N' _ (.tail _ (.head _))
    · exact N' _ (.tail _ (.tail _ hp))
theorem accU_pop1 (dp un : Nat) (gd : Option (List Code)) (cn : Str) (cs : Scope) (a : Addr) (ccd : Value) (cl : List (Str × Addr)) (outer : List Env) (A₀ : Around) (base h₀ : Heap) (L : Addr) (m : Str → Option Value) (news : List (Addr × Obj)) (g : Obj → List (Addr × Obj)) (s : Shared) (x dx : Addr) (xs : Array Value) (v : Value) (k : Nat) (tk : Tok) (n : Nat) (Q E : Value → Shared → Prop)
   (B : Below A₀ base outer h₀) (F : Fr h₀ L s.heap m) (X : (Kf w.params).In h₀) (N : News h₀ L s.heap news) (T : Top vw (looseW vw lz) mean mg mb h₀) (hk : cs.kind = .function) (hd : dp + 3 < recursionLimit) (hu : un + 100 < cLine)
   (U : UpdF x (accObj 101 dx (xs.push v) k) news g) (hdx : (dx, dictOf (es0 w.params tk) n) ∈ news) (hz : xs.size < 1000)
   (hret : ∀ (h' : Heap) (tk' : Nat), Fr h₀ L h' m → News h₀ L h' (g (accObj 101 dx xs (k + 1))) → Q v { s with heap := h', toks := tk' }) :
   wpAny (model pw w) (ktrTop dp un gd cn cs L a ccd cl outer) (call (.ref 61) [.ref x]) Q E s := by
  obtain ⟨R, hoff, hR, hx, hs, hg⟩ := updF_open U
  refine acc_pop1 dp un gd cn cs a ccd cl outer A₀ base h₀ L m R s x dx xs v k tk n Q E B F X (fun p hp => N p ((List.mem_cons.mp hp).elim (fun e => e ▸ hx) (hR p))) T hk hd hu hoff ((hs _ hdx).elim (fun e => (dict_not_acc e).elim) id) hz fun h' tk' F' N' => ?_
  refine hret h' tk' F' fun p hp => ?_
  rcases hg _ p hp with rfl | hp
  · exact N' _ (.head _)
  · exact N' _ (.tail _ hp)
section
variable {prog : Program} {w : World} {A : Around} {E : Value → Shared → Prop} {s : Shared} {env : Env} {h₀ : Heap} {L : Addr} {body : List Stmt} {Q : Flow → Shared → Prop}
theorem iter_strT {y : Str} {t : Tok} {m₀ : Str → Option Value} {news : List (Addr × Obj)} {x : Str} {px : Pos} (J : Nat → (Str → Option Value) → List (Addr × Obj) → Prop)
    (hh : A.handled = none) (F : Fr h₀ L s.heap m₀) (N : News h₀ L s.heap news) (h0 : J 0 m₀ news)
    (turn : ∀ i c u m₁ nx h tk I o, y.cps[i]? = some c → J i m₁ nx → (∀ p ∈ nx, p.1 ≠ I) → Fr h₀ L h m₁ → News h₀ L h ((I, o) :: nx) →
      wpAny (model prog w) A (assign (.Name x px) env (.str ⟨#[c]⟩ u)) (fun _ s₂ => wpAny (model prog w) A (execs body env) (TurnT h₀ L (J (i + 1)) (I, o) { s with heap := h, toks := tk } Q) E s₂) E { s with heap := h, toks := tk })
    (done : ∀ m₁ nx h tk, J y.cps.size m₁ nx → Fr h₀ L h m₁ → News h₀ L h nx → Q .next { s with heap := h, toks := tk })
    (hE : PassesOwn (model prog w) A env E := by passes_own) :
    wpAny (model prog w) A (pyIter (.str y t)) (fun it s₂ => LoopT prog w A env (.Name x px) body Q E it s₂) E s := by
  have go : ∀ (ty : String) (W : Walks prog w A s.heap.objs.size [s.heap.objs.size] [s.heap.objs.size] y.cps.size (SignAt y) (fun i h => h.IsStrIter s.heap.objs.size ty y t i)),
      LoopT prog w A env (.Name x px) body Q E (.ref s.heap.objs.size) { s with heap := s.heap.push { cls := .type ty, data := .fields #[.str y t, .int 0 0] } } := fun ty W => by
    refine loop_core (fun _ => default) W (next_is_new F) (Nat.ne_of_gt F.ns.lt) (fun p hp => Nat.ne_of_lt (Heap.lt_size (N p hp).1)) ⟨_, Heap.get?_push_size _ rfl, rfl, rfl⟩ (F.push _) (fun p hp => ⟨Heap.get?_push_of_some _ (N p hp).1, (N p hp).2⟩)
      (fun i h st => by obtain ⟨o, ho, _⟩ := st; exact ⟨o, ho⟩) (fun i s' v Q' E' _ hq => wpAny_pure hq) J h0 (fun _ _ _ _ _ _ _ b hb hne => absurd (List.mem_singleton.mp hb) hne) ?_ done hE
    rintro i v m₁ nx h tk o hi ⟨c, u, hc, rfl⟩ hJ hne F₁ N₁
    exact turn i c u m₁ nx h tk _ o hc hJ hne F₁ N₁
  refine wpAny_pyIter_strU ?_
  cases ha : y.cps.all (· < 128)
  · have e : strIterType y = "str_iterator" := by simp [strIterType, ha]
    rw [e]; exact go _ (Walks.strWide hh _ y t)
  · have e : strIterType y = "str_ascii_iterator" := by simp [strIterType, ha]
    rw [e]; exact go _ (Walks.strAscii hh _ y t)
end
end Mine
end SecAccU
set_option maxRecDepth 100000
set_option maxHeartbeats 8000000
set_option Elab.async false
set_option linter.unusedVariables false
set_option linter.unusedSimpArgs false
open PySem PySem.W PySem.Calls PyProof.Rows PySem.Spec
noncomputable section SecPcPure
namespace Mine
variable {w : World} {mean : ExcName → Option Value} {mg mb : Str → Option Value}
theorem regPcPure : Kf = Kf ∧ PySem.Challenge.rw_xn0003_01 = PySem.Challenge.rw_xn0003_01 := by
  k_fill
  try (walk1; fail "looked")
  exact ⟨rfl, rfl⟩
noncomputable abbrev Pc := List Nat × List Nat
noncomputable def cat (p : Pc) : List Nat := p.1 ++ p.2
noncomputable def ltb (a b : List Nat) : Bool := decide (a < b)
noncomputable def takeIn : List Pc → Pc → List Pc × Pc
  | [], c => ([], c)
  | t :: r, c => if ltb (cat c) (cat t) then takeIn r (cat c, cat t) else (t :: r, c)
noncomputable def pileStep (s : List Pc × List Pc) (c : Nat) : List Pc × List Pc := let r := takeIn s.1 ([], [c]); (r.2 :: r.1, s.2 ++ [r.2])
noncomputable def stN (rev : List Nat) (i : Nat) : List Pc × List Pc := (rev.take i).foldl pileStep ([], [])
noncomputable def pcD (p : Pc) : Dat := .tuple [.str ⟨p.1.toArray⟩, .str ⟨p.2.toArray⟩]
noncomputable def tot (P : List Pc) : Nat := (P.map fun p => (cat p).length).sum
theorem stN_succ {rev : List Nat} {i c : Nat} (h : rev[i]? = some c) : stN rev (i + 1) = pileStep (stN rev i) c := by
  unfold stN
  rw [List.take_add_one, h, List.foldl_append]
  rfl
theorem coll_neg {a b : List Nat} : (b2i (decide (b < a)) - b2i (decide (a < b)) < 0) ↔ ltb a b = true := by
  unfold ltb
  by_cases h1 : a < b
  · have h2 : ¬ b < a := fun h => List.lt_irrefl a (List.lt_trans h1 h)
    simp [h1, h2, b2i]
  · by_cases h2 : b < a <;> simp [h1, h2, b2i]
theorem ltb_nil {a : List Nat} : ltb a [] = false := by
  unfold ltb
  rw [decide_eq_false_iff_not]
  exact List.not_lt_nil a
theorem tot_cons (p : Pc) (P : List Pc) : tot (p :: P) = (cat p).length + tot P := by unfold tot; rw [List.map_cons, List.sum_cons]
theorem len_cat (p : Pc) : (cat p).length = p.1.length + p.2.length := by unfold cat; rw [List.length_append]
theorem tot_ge {P : List Pc} (h : ∀ p ∈ P, cat p ≠ []) : P.length ≤ tot P := by
  induction P with
  | nil => exact Nat.le_refl _
  | cons p P ih =>
    rw [tot_cons, List.length_cons]
    have h1 := ih fun q hq => h q (.tail _ hq)
    have h2 : 1 ≤ (cat p).length := List.length_pos_iff.mpr (h p (.head _))
    omega
/-- what the taking keeps: no empty piece, the letters' number -/
theorem takeIn_keeps : ∀ (P : List Pc) (c : Pc), (∀ p ∈ P, cat p ≠ []) → cat c ≠ [] → (∀ p ∈ (takeIn P c).1, cat p ≠ []) ∧ cat (takeIn P c).2 ≠ [] ∧ tot (takeIn P c).1 + (cat (takeIn P c).2).length = tot P + (cat c).length
  | [], c, _, hc => ⟨(fun _ h => nomatch h), hc, rfl⟩
  | t :: r, c, hP, hc => by
    unfold takeIn
    split
    · have h := takeIn_keeps r (cat c, cat t) (fun q hq => hP q (.tail _ hq)) (fun e => hc (List.append_eq_nil_iff.mp e).1)
      refine ⟨h.1, h.2.1, ?_⟩
      rw [h.2.2, tot_cons, len_cat]
      dsimp only
      omega
    · exact ⟨hP, hc, rfl⟩
theorem stN_ok (rev : List Nat) (i : Nat) : (∀ p ∈ (stN rev i).1, cat p ≠ []) ∧ tot (stN rev i).1 ≤ i ∧ (stN rev i).2.length ≤ i := by
  induction i with
  | zero => exact ⟨fun _ h => (nomatch h), Nat.le_refl _, Nat.le_refl _⟩
  | succ i ih =>
    cases hc : rev[i]? with
    | none =>
      have e : stN rev (i + 1) = stN rev i := by unfold stN; rw [List.take_add_one, hc]; simp
      rw [e]
      exact ⟨ih.1, Nat.le_succ_of_le ih.2.1, Nat.le_succ_of_le ih.2.2⟩
    | some c =>
      rw [stN_succ hc]
      have h := takeIn_keeps (stN rev i).1 ([], [c]) ih.1 (by simp [cat])
      refine ⟨?_, ?_, ?_⟩
      · intro p hp
        rcases List.mem_cons.mp hp with rfl | hp
        · exact h.2.1
        · exact h.1 p hp
      · show tot (_ :: _) ≤ _
        rw [tot_cons]
        have h2 := h.2.2
        have h3 : (cat (([], [c]) : Pc)).length = 1 := rfl
        omega
      · show ((stN rev i).2 ++ [_]).length ≤ _
        rw [List.length_append]
        exact Nat.succ_le_succ ih.2.2
theorem datAll_snoc {news : List (Addr × Obj)} : ∀ {vs : List Value} {ds : List Dat} {d : Dat}, DatAll news vs (ds ++ [d]) → ∃ vs' v, vs = vs' ++ [v] ∧ DatAll news vs' ds ∧ DatIn news v d
  | _, [], _, h => by
    cases h with
    | cons h1 h2 => cases h2; exact ⟨[], _, rfl, .nil, h1⟩
  | _, e :: ds, d, h => by
    cases h with
    | cons h1 h2 =>
      obtain ⟨vs', v, rfl, h3, h4⟩ := datAll_snoc h2
      exact ⟨_ :: vs', v, rfl, .cons h1 h3, h4⟩
theorem pc_at {news : List (Addr × Obj)} {v : Value} {p : Pc} (h : DatIn news v (pcD p)) : ∃ a n t1 t2, v = .ref a ∧ (a, ({ cls := .type "tuple", data := .seq [.str ⟨p.1.toArray⟩ t1, .str ⟨p.2.toArray⟩ t2].toArray n } : Obj)) ∈ news := by
  unfold pcD at h
  cases h with
  | tuple hm hr =>
    cases hr with
    | cons h1 hr =>
      cases hr with
      | cons h2 hr =>
        cases hr
        cases h1
        cases h2
        exact ⟨_, _, _, _, rfl, hm⟩
theorem pc_in {news : List (Addr × Obj)} {a : Addr} {n : Nat} {t1 t2 : Tok} {p : Pc} (h : (a, ({ cls := .type "tuple", data := .seq [.str ⟨p.1.toArray⟩ t1, .str ⟨p.2.toArray⟩ t2].toArray n } : Obj)) ∈ news) : DatIn news (.ref a) (pcD p) :=
  .tuple h (.cons (.str _ _) (.cons (.str _ _) .nil))
theorem fr_kst {h₀ h : Heap} {L : Addr} {m : Str → Option Value} {ps : List (Str × Value)} (F : Fr h₀ L h m) (hp : ∀ p ∈ ps, m p.1 = some p.2) : Fr h₀ L h (kstB m ps) := by
  have e : kstB m ps = m := funext fun z => kstB_eq hp (fun _ => rfl)
  rw [e]; exact F
section
variable {prog : Program} {w : World} {A : Around} {E : Value → Shared → Prop} {s : Shared} {Q : Value → Shared → Prop}
theorem add_l {x y : Str} {f h : List Nat} {t u : Tok} (ex : x = ⟨f.toArray⟩) (ey : y = ⟨h.toArray⟩) (hz : f.length + h.length ≤ 64) (hq : ∀ t' k, Q (.str ⟨(f ++ h).toArray⟩ t') { s with toks := k }) : wpAny (model prog w) A (binaryOp .Add (.str x t) (.str y u)) Q E s := by
  subst ex ey
  have e : (Str.mk f.toArray ++ Str.mk h.toArray) = Str.mk (f ++ h).toArray := by
    show Str.mk (f.toArray ++ h.toArray) = _
    rw [List.append_toArray]
  refine SBL.add (fun t' k _ => ?_) ?_
  · rw [e]
    exact hq t' k
  · show f.toArray.size + h.toArray.size ≤ _
    rw [List.size_toArray, List.size_toArray, sizeLine_eq]; omega
end
theorem rev_is (x : Str) (u : Tok) : (Txt.sliceBy x none none (-1, u)).cps.toList = x.cps.toList.reverse := by
  rw [step_rev_list]
  have hl : x.length = x.cps.toList.length := by rw [Array.length_toList]; rfl
  apply List.ext_getElem
  · rw [List.length_map, List.length_range, List.length_reverse, hl]
  · intro i h1 h2
    rw [List.getElem_map, List.getElem_range, List.getElem_reverse]
    rw [List.length_map, List.length_range] at h1
    have h3 : x.length - 1 - i < x.cps.size := by have : x.length = x.cps.size := rfl; omega
    simp only [hl, Array.getElem_toList] at h3 ⊢
    simp only [Array.getD, Array.length_toList] at h3 ⊢
    rw [dif_pos h3]
    rfl
end Mine
end SecPcPure
set_option maxRecDepth 100000
set_option maxHeartbeats 8000000
set_option Elab.async false
set_option linter.unusedVariables false
set_option linter.unusedSimpArgs false
open PySem PySem.W PySem.Calls PyProof.Rows PySem.Spec
noncomputable section SecPieces
namespace Mine
variable {w : World} {mean : ExcName → Option Value} {mg mb : Str → Option Value}
theorem regPieces : Kf = Kf ∧ PySem.Challenge.rw_xn0003_01 = PySem.Challenge.rw_xn0003_01 := by
  k_fill
  try (walk1; fail "looked")
  exact ⟨rfl, rfl⟩
local macro_rules | `(tactic| walk_at "exec For") => `(tactic| (k_here; (refine For_T ?_ (fun _ => rfl))))
local macro_rules | `(tactic| walk_at "pyIter str") => `(tactic| (k_here; refine Stop.go ?_))
local macro_rules | `(tactic| walk_at "exec While") => `(tactic| (k_here; refine Stop.go ?_))
local macro_rules | `(tactic| walk_at "binaryOp Add str str") => `(tactic| (k_here; refine add_l rfl rfl (by simp only [List.length_cons, List.length_nil]; omega) ?_; intro t9 k9))
local macro_rules | `(tactic| walk_at "getMethod ref") => `(tactic| (k_here; k_dflt (refine' meth_L ?k1 ?k2 ?k3 ?k4 ?k5 ?k6 ?k7 ?k8 ?k9 ?_; (case k1 => k_asm); (case k2 => k_asm); (case k3 => k_asm); (case k4 => first | k_memK | kst_mem); (case k5 => kst_mem); (case k6 => k_is); (case k7 => k_is); (case k8 => decide); (case k9 => rfl); (try dsimp only))))
local macro_rules | `(tactic| walk_at "call ref") => `(tactic| (k_here; k_dflt (refine' strcoll_spec _ _ _ _ _ _ _ _ _ _ _ _ _ _ _ _ _ _ _ _ _ _ ?b ?f ?x ?n ?t ?k ?d ?u ?_; (case b => k_asm); (case f => k_asm); (case x => k_asm); (case n => k_asm); (case t => k_asm); (case k => first | exact rfl | assumption); (case d => ktr_room); (case u => ktr_units)); intro t9 h9 tk9 F9 N9; (try dsimp only)))
local macro_rules | `(tactic| walk_at "call ref") => `(tactic| (k_here; k_dflt (refine' acc_new _ _ _ _ _ _ _ _ _ _ _ _ _ _ _ _ _ _ ?b ?f ?x ?n ?t ?k ?d ?u ?_; (case b => k_asm); (case f => k_asm); (case x => k_asm); (case n => k_asm); (case t => k_asm); (case k => first | exact rfl | assumption); (case d => ktr_room); (case u => ktr_units)); intro x9 dx9 tx9 n9 h9 tk9 lt1 lt2 F9 N9; (try dsimp only)))
local macro_rules | `(tactic| walk_at "call ref") => `(tactic| (k_here; k_dflt (refine' accU_pop0 _ _ _ _ _ _ _ _ _ _ _ _ _ _ _ _ _ _ _ _ _ _ _ _ ?b ?f ?x ?n ?t ?k ?d ?u ?o ?dx ?_; (case b => k_asm); (case f => k_asm); (case x => k_asm); (case n => k_asm); (case t => k_asm); (case k => first | exact rfl | assumption); (case d => ktr_room); (case u => ktr_units); (case o => k_updF); (case dx => kst_mem)); intro D9 t8 t9 h9 tk9 lt9 F9 N9; (try k_lt lt9); (try dsimp only)))
local macro_rules | `(tactic| walk_at "call ref") => `(tactic| (k_here; k_dflt (refine' accU_pop1 _ _ _ _ _ _ _ _ _ _ _ _ _ _ _ _ _ _ _ _ _ _ _ _ _ _ ?b ?f ?x ?n ?t ?k ?d ?u ?o ?dx ?z ?_; (case b => k_asm); (case f => k_asm); (case x => k_asm); (case n => k_asm); (case t => k_asm); (case k => first | exact rfl | assumption); (case d => ktr_room); (case u => ktr_units); (case o => k_updF); (case dx => kst_mem); (case z => simp only [Array.size_push, List.size_toArray]; omega)); intro h9 tk9 F9 N9; (try dsimp only at N9); (try dsimp only)))
local macro_rules | `(tactic| walk_at "call ref") => `(tactic| (k_here; k_dflt (refine' accU_push _ _ _ _ _ _ _ _ _ _ _ _ _ _ _ _ _ _ _ _ _ _ _ _ _ _ _ _ _ ?b ?f ?x ?n ?t ?k ?d ?u ?o ?dx ?z ?_; (case b => k_asm); (case f => k_asm); (case x => k_asm); (case n => k_asm); (case t => k_asm); (case k => first | exact rfl | assumption); (case d => ktr_room); (case u => ktr_units); (case o => k_updF); (case dx => kst_mem); (case z => simp only [Array.size_push, List.size_toArray]; omega)); intro D9 h9 tk9 lt9 F9 N9; (try k_lt lt9); (try dsimp only at N9); (try dsimp only)))
theorem sub2 {h₀ h : Heap} {L : Addr} {a b : Addr × Obj} {R : List (Addr × Obj)} (N : News h₀ L h (a :: b :: R)) : News h₀ L h (b :: a :: R) := fun p hp => N p (by
  rcases List.mem_cons.mp hp with rfl | hp
  · exact .tail _ (.head _)
  · rcases List.mem_cons.mp hp with rfl | hp
    · exact .head _
    · exact .tail _ (.tail _ hp))
local macro_rules | `(tactic| walk_at "assign Tuple") => `(tactic| (k_here; (with_reducible show wpAny _ _ (assign (Expr.Tuple _ _ _) _ (Value.ref _)) _ _ _); k_dflt (refine' unpackN_ ?k1 ?k2 ?k3 ?k4 ?k5 ?k6 ?_; (case k1 => k_asm); (case k2 => k_asm); (case k3 => exact News.isTup (by k_asm) (by first | k_memK | kst_mem)); (case k4 => exact rfl); (case k5 => exact rfl); (case k6 => exact rfl)); intro h' F' N'))
/-- the taking's state -/
noncomputable def whJ (q : Addr × Obj) (nw : List (Addr × Obj)) (x aP dx : Addr) (P₀ : Params) (lp : List Value) (np : Nat) (out : List Pc) (r₀ : List Pc × Pc) (n : Nat) (m : Str → Option Value) (nx : List (Addr × Obj)) : Prop :=
  m (Str.ofString "pile") = some (.ref x) ∧ m (Str.ofString "pieces") = some (.ref aP) ∧ ∃ (f h fr bk : List Nat) (tf th tr tb : Tok) (full P : List Pc) (lx : List Value) (k : Nat) (tk : Tok) (n1 : Nat) (R tl : List (Addr × Obj)),
    m (Str.ofString "fore") = some (.str ⟨f.toArray⟩ tf) ∧ m (Str.ofString "hind") = some (.str ⟨h.toArray⟩ th) ∧ m (Str.ofString "front") = some (.str ⟨fr.toArray⟩ tr) ∧ m (Str.ofString "back") = some (.str ⟨bk.toArray⟩ tb) ∧
    nx = q :: (x, accObj 101 dx lx.toArray k) :: (aP, listOf lp.toArray np) :: R ∧ OwnOff R [q.1, x, aP] ∧ (dx, dictOf (es0 P₀ tk) n1) ∈ R ∧ R = tl ++ nw ∧ (∀ q ∈ nw, ∀ p ∈ tl, q.1 < p.1) ∧ DatAll tl lx (P.reverse.map pcD) ∧ DatAll tl lp (out.map pcD) ∧
    ((full = [] ∧ P = [] ∧ fr = [] ∧ bk = []) ∨ full = (fr, bk) :: P) ∧ takeIn full (f, h) = r₀ ∧ n = full.length ∧ (∀ p ∈ full, cat p ≠ []) ∧ cat (f, h) ≠ [] ∧ tot full + (f.length + h.length) ≤ 61
theorem off_cons' {R : List (Addr × Obj)} {D : Addr} {o : Obj} {adr : List Addr} (h : ∀ b ∈ adr, @LT.lt Nat _ b D) (h2 : OwnOff R adr) : OwnOff ((D, o) :: R) adr := off_cons (fun b hb e => by have := h b hb; rw [e] at this; exact Nat.lt_irrefl _ this) h2
theorem tl_cons {nw tl : List (Addr × Obj)} {q : Addr × Obj} (h : ∀ p ∈ nw, p.1 < q.1) (h2 : ∀ p ∈ nw, ∀ q ∈ tl, p.1 < q.1) : ∀ p ∈ nw, ∀ z ∈ q :: tl, p.1 < z.1 := fun p hp z hz => (List.mem_cons.mp hz).elim (fun e => e ▸ h p hp) fun hz => h2 p hp z hz
theorem off_nil {adr : List Addr} : OwnOff [] adr := fun _ hp => nomatch hp
theorem off_app {E R : List (Addr × Obj)} {adr : List Addr} (h : OwnOff E adr) (h2 : OwnOff R adr) : OwnOff (E ++ R) adr := fun p hp => (List.mem_append.mp hp).elim (h p) (h2 p)
theorem wh_mk {q : Addr × Obj} {nw : List (Addr × Obj)} {x aP dx : Addr} {P₀ : Params} {lp : List Value} {np : Nat} {out : List Pc} {r₀ : List Pc × Pc} {n : Nat} {m : Str → Option Value} {f h fr bk : List Nat} {tf th tr tb : Tok} {full P : List Pc} {lx : List Value} {k : Nat} {tk : Tok} {n1 : Nat} {R tl : List (Addr × Obj)} (extra : List (Addr × Obj))
    (h1 : m (Str.ofString "pile") = some (.ref x)) (h2 : m (Str.ofString "pieces") = some (.ref aP)) (h3 : m (Str.ofString "fore") = some (.str ⟨f.toArray⟩ tf)) (h4 : m (Str.ofString "hind") = some (.str ⟨h.toArray⟩ th)) (h5 : m (Str.ofString "front") = some (.str ⟨fr.toArray⟩ tr)) (h6 : m (Str.ofString "back") = some (.str ⟨bk.toArray⟩ tb))
    (hex : OwnOff extra [q.1, x, aP]) (hlt : ∀ p ∈ nw, ∀ z ∈ extra, p.1 < z.1) (hoff : OwnOff R [q.1, x, aP]) (hdx : (dx, dictOf (es0 P₀ tk) n1) ∈ R) (hR : R = tl ++ nw) (htl : ∀ q ∈ nw, ∀ p ∈ tl, q.1 < p.1) (hDx : DatAll tl lx (P.reverse.map pcD)) (hDp : DatAll tl lp (out.map pcD))
    (hc : (full = [] ∧ P = [] ∧ fr = [] ∧ bk = []) ∨ full = (fr, bk) :: P) (hr : takeIn full (f, h) = r₀) (hn : n = full.length) (hne : ∀ p ∈ full, cat p ≠ []) (hcat : cat (f, h) ≠ []) (htot : tot full + (f.length + h.length) ≤ 61) :
    whJ q nw x aP dx P₀ lp np out r₀ n m (q :: (x, accObj 101 dx lx.toArray k) :: (aP, listOf lp.toArray np) :: (extra ++ R)) :=
  ⟨h1, h2, f, h, fr, bk, tf, th, tr, tb, full, P, lx, k, tk, n1, extra ++ R, extra ++ tl, h3, h4, h5, h6, rfl, off_app hex hoff, List.mem_append.mpr (.inr hdx), by rw [hR, List.append_assoc], fun p hp z hz => (List.mem_append.mp hz).elim (hlt p hp z) (htl p hp z),
    DatAll.mono (fun p hp => List.mem_append.mpr (.inr hp)) hDx, DatAll.mono (fun p hp => List.mem_append.mpr (.inr hp)) hDp, hc, hr, hn, hne, hcat, htot⟩
theorem lt_one {D : Addr} {o : Obj} {nw : List (Addr × Obj)} (h : ∀ p ∈ nw, p.1 < D) : ∀ p ∈ nw, ∀ z ∈ [(D, o)], p.1 < z.1 := fun p hp z hz => by rw [List.mem_singleton.mp hz]; exact h p hp
theorem lt_two {D D' : Addr} {o o' : Obj} {nw : List (Addr × Obj)} (h : ∀ p ∈ nw, p.1 < D) (h' : ∀ p ∈ nw, p.1 < D') : ∀ p ∈ nw, ∀ z ∈ [(D, o), (D', o')], p.1 < z.1 := tl_cons h (lt_one h')
theorem str_app (f h : List Nat) : (Str.mk f.toArray ++ Str.mk h.toArray) = Str.mk (f ++ h).toArray := by
  show Str.mk (f.toArray ++ h.toArray) = _
  rw [List.append_toArray]
theorem perm1 {h₀ h : Heap} {L : Addr} {a q x y : Addr × Obj} {R : List (Addr × Obj)} (N : News h₀ L h (a :: q :: x :: y :: R)) : News h₀ L h (q :: x :: y :: a :: R) := kst_newsOf N (by kst_inAny)
theorem perm2 {h₀ h : Heap} {L : Addr} {a b q x y : Addr × Obj} {R : List (Addr × Obj)} (N : News h₀ L h (a :: b :: q :: x :: y :: R)) : News h₀ L h (q :: x :: y :: a :: b :: R) := kst_newsOf N (by kst_inAny)
theorem allLt_R {D : Addr} {R tl nw : List (Addr × Obj)} (hR : R = tl ++ nw) (h : AllLt D R) : ∀ p ∈ nw, p.1 < D := fun p hp => ktn_ltOf h p (by rw [hR]; exact List.mem_append.mpr (.inr hp))
/-- the outer loop's state -/
noncomputable def pileJ (rev : List Nat) (nw : List (Addr × Obj)) (x aP dx : Addr) (P₀ : Params) (i : Nat) (m : Str → Option Value) (nx : List (Addr × Obj)) : Prop :=
  m (Str.ofString "pile") = some (.ref x) ∧ m (Str.ofString "pieces") = some (.ref aP) ∧ ∃ (lx lp : List Value) (k np : Nat) (tk : Tok) (n : Nat) (R tl : List (Addr × Obj)), nx = (x, accObj 101 dx lx.toArray k) :: (aP, listOf lp.toArray np) :: R ∧ OwnOff R [x, aP] ∧ (dx, dictOf (es0 P₀ tk) n) ∈ R ∧
    R = tl ++ nw ∧ (∀ q ∈ nw, ∀ p ∈ tl, q.1 < p.1) ∧ DatAll tl lx ((stN rev i).1.reverse.map pcD) ∧ DatAll tl lp ((stN rev i).2.map pcD)
theorem pile_start {rev : List Nat} {news : List (Addr × Obj)} {x aP dx : Addr} {tk : Tok} {n : Nat} {m : Str → Option Value} {P₀ : Params} (h1 : m (Str.ofString "pile") = some (.ref x)) (h2 : m (Str.ofString "pieces") = some (.ref aP)) (hD : ∀ p ∈ news, p.1 < dx) (hx : dx < x) (hL : x < aP ∧ dx < aP ∧ AllLt aP news) :
    pileJ rev news x aP dx P₀ 0 m ((x, accObj 101 dx #[]) :: (aP, listOf #[] 0) :: (dx, dictOf (es0 P₀ tk) n) :: news) := by
  refine ⟨h1, h2, [], [], 0, 0, tk, n, (dx, dictOf (es0 P₀ tk) n) :: news, [(dx, dictOf (es0 P₀ tk) n)], rfl, fun p hp b hb => ?_, .head _, rfl, fun q hq p hp => ?_, .nil, .nil⟩
  · have hp' : @LT.lt Nat _ p.1 x := by
      rcases List.mem_cons.mp hp with rfl | hp
      · exact hx
      · exact Nat.lt_trans (hD p hp) hx
    have hx' : @LT.lt Nat _ x aP := hL.1
    simp only [List.mem_cons, List.not_mem_nil, or_false] at hb
    rcases hb with rfl | rfl <;> (refine neN ?_; omega)
  · rw [List.mem_singleton.mp hp]
    exact hD q hq
theorem turn_mk {rev : List Nat} {q : Addr × Obj} {nw : List (Addr × Obj)} {x aP dx : Addr} {P₀ : Params} {i k np n1 : Nat} {tk : Tok} {h₀ h' : Heap} {L : Addr} {m' : Str → Option Value} {lx lp : List Value} {R tl : List (Addr × Obj)} {s₁ : Shared} {tk' : Nat} {Q : Flow → Shared → Prop} {f : Pc} {full out : List Pc} (extra : List (Addr × Obj))
    (F : Fr h₀ L h' m') (N : News h₀ L h' (extra ++ (q :: (x, accObj 101 dx lx.toArray k) :: (aP, listOf lp.toArray np) :: R))) (h1 : m' (Str.ofString "pile") = some (.ref x)) (h2 : m' (Str.ofString "pieces") = some (.ref aP)) (e1 : x ≠ q.1) (e2 : aP ≠ q.1)
    (hex : OwnOff extra [q.1, x, aP]) (hlt : ∀ p ∈ nw, ∀ z ∈ extra, p.1 < z.1) (hoff : OwnOff R [q.1, x, aP]) (hdx : (dx, dictOf (es0 P₀ tk) n1) ∈ R) (hR : R = tl ++ nw) (htl : ∀ q ∈ nw, ∀ p ∈ tl, q.1 < p.1)
    (hst : stN rev (i + 1) = (f :: full, out ++ [f])) (hDx : DatAll (extra ++ tl) lx ((f :: full).reverse.map pcD)) (hDp : DatAll (extra ++ tl) lp ((out ++ [f]).map pcD)) :
    TurnT h₀ L (pileJ rev nw x aP dx P₀ (i + 1)) q s₁ Q .next { s₁ with heap := h', toks := tk' } := by
  refine TurnT.next (nx := (x, accObj 101 dx lx.toArray k) :: (aP, listOf lp.toArray np) :: (extra ++ R)) F N (List.mem_append.mpr (.inr (.head _))) (fun p hp => ?_) (fun p hp => ?_) ⟨h1, h2, lx, lp, k, np, tk, n1, extra ++ R, extra ++ tl, rfl, fun p hp b hb => ?_, List.mem_append.mpr (.inr hdx), by rw [hR, List.append_assoc], fun p hp z hz => (List.mem_append.mp hz).elim (hlt p hp z) (htl p hp z), ?_, ?_⟩
  · rcases List.mem_cons.mp hp with rfl | hp
    · exact List.mem_append.mpr (.inr (.tail _ (.head _)))
    · rcases List.mem_cons.mp hp with rfl | hp
      · exact List.mem_append.mpr (.inr (.tail _ (.tail _ (.head _))))
      · exact (List.mem_append.mp hp).elim (fun h => List.mem_append.mpr (.inl h)) fun h => List.mem_append.mpr (.inr (.tail _ (.tail _ (.tail _ h))))
  · rcases List.mem_cons.mp hp with rfl | hp
    · exact e1
    · rcases List.mem_cons.mp hp with rfl | hp
      · exact e2
      · exact off_app hex hoff p hp _ (.head _)
  · exact off_app hex hoff p hp b (.tail _ hb)
  · rw [hst]; exact hDx
  · rw [hst]; exact hDp
theorem st_next {rev : List Nat} {i c : Nat} {f h : List Nat} {full : List Pc} (hcr : rev[i]? = some c) (hr : takeIn full (f, h) = takeIn (stN rev i).1 ([], [c])) (hs : takeIn full (f, h) = (full, (f, h))) : stN rev (i + 1) = ((f, h) :: full, (stN rev i).2 ++ [(f, h)]) := by
  rw [stN_succ hcr]
  unfold pileStep
  rw [← hr, hs]
theorem take_stop {f h : List Nat} {t : Pc} {P : List Pc} (hn : ltb (f ++ h) (cat t) = false) : takeIn (t :: P) (f, h) = (t :: P, (f, h)) := by
  unfold takeIn
  rw [show cat (f, h) = f ++ h from rfl, hn]
  rfl
theorem take_go {f h fr bk : List Nat} {P : List Pc} (hn : ltb (f ++ h) (fr ++ bk) = true) : takeIn ((fr, bk) :: P) (f, h) = takeIn P (f ++ h, fr ++ bk) := by
  conv => lhs; unfold takeIn
  rw [show cat (f, h) = f ++ h from rfl, show cat (fr, bk) = fr ++ bk from rfl, hn]
  rfl
theorem coll_st {a b : List Nat} : (b2i (decide ((Str.mk b.toArray).cps.toList < (Str.mk a.toArray).cps.toList)) - b2i (decide ((Str.mk a.toArray).cps.toList < (Str.mk b.toArray).cps.toList)) < 0) ↔ ltb a b = true := by
  rw [List.toList_toArray, List.toList_toArray]
  exact coll_neg
theorem not_ltb {a b : List Nat} (h : ¬ (b2i (decide ((Str.mk b.toArray).cps.toList < (Str.mk a.toArray).cps.toList)) - b2i (decide ((Str.mk a.toArray).cps.toList < (Str.mk b.toArray).cps.toList)) < 0)) : ltb a b = false := by
  rw [coll_st, Bool.not_eq_true] at h
  exact h
theorem str_ne {a : List Nat} : (Str.mk a.toArray != Str.ofString "") = false → a = [] := by
  intro h
  have h' : Str.mk a.toArray = Str.ofString "" := by simpa using h
  have h2 := congrArg (fun z : Str => z.cps.toList) h'
  exact h2
theorem wstep {h₀ : Heap} {L : Addr} {s : Shared} {J : Nat → (Str → Option Value) → List (Addr × Obj) → Prop} {Q : Flow → Shared → Prop} {n n' : Nat} {h' : Heap} {tk : Nat} {m₂ : Str → Option Value} {news₂ : List (Addr × Obj)} (F : Fr h₀ L h' m₂) (N : News h₀ L h' news₂) (hn : n' < n) (hj : J n' m₂ news₂) : WhileStep2 h₀ L s J Q n .next { s with heap := h', toks := tk } :=
  ⟨h', tk, m₂, news₂, n', rfl, F, N, hn, hj⟩
theorem dat_one {E tl : List (Addr × Obj)} {lx : List Value} {v : Value} {P : List Pc} {p : Pc} (h : DatAll tl lx (P.reverse.map pcD)) (h1 : DatIn (E ++ tl) v (pcD p)) : DatAll (E ++ tl) (lx ++ [v]) ((p :: P).reverse.map pcD) := by
  rw [List.reverse_cons, List.map_append]
  exact DatAll.append (DatAll.mono (fun p hp => List.mem_append.mpr (.inr hp)) h) (.cons h1 .nil)
theorem dat_two {E tl : List (Addr × Obj)} {lx : List Value} {v v' : Value} {P : List Pc} {p p' : Pc} (h : DatAll tl lx (P.reverse.map pcD)) (h1 : DatIn (E ++ tl) v (pcD p)) (h2 : DatIn (E ++ tl) v' (pcD p')) : DatAll (E ++ tl) (lx ++ [v] ++ [v']) ((p' :: p :: P).reverse.map pcD) := by
  rw [List.reverse_cons, List.map_append]
  exact DatAll.append (dat_one h h1) (.cons h2 .nil)
theorem dat_out {E tl : List (Addr × Obj)} {lp : List Value} {v : Value} {out : List Pc} {p : Pc} (h : DatAll tl lp (out.map pcD)) (h1 : DatIn (E ++ tl) v (pcD p)) : DatAll (E ++ tl) (lp ++ [v]) ((out ++ [p]).map pcD) := by
  rw [List.map_append]
  exact DatAll.append (DatAll.mono (fun p hp => List.mem_append.mpr (.inr hp)) h) (.cons h1 .nil)
theorem lt_three {D D' D'' : Addr} {o o' o'' : Obj} {nw : List (Addr × Obj)} (h : ∀ p ∈ nw, p.1 < D) (h' : ∀ p ∈ nw, p.1 < D') (h'' : ∀ p ∈ nw, p.1 < D'') : ∀ p ∈ nw, ∀ z ∈ [(D, o), (D', o'), (D'', o'')], p.1 < z.1 := tl_cons h (lt_two h' h'')
/-- where two ways of a statement meet -/
noncomputable def JoinAt (h₀ : Heap) (L : Addr) (s : Shared) (J : (Str → Option Value) → List (Addr × Obj) → Prop) (f : Flow) (s' : Shared) : Prop :=
  f = .next ∧ ∃ h₁ tk₁ m₁ nx₁, s' = { s with heap := h₁, toks := tk₁ } ∧ Fr h₀ L h₁ m₁ ∧ News h₀ L h₁ nx₁ ∧ J m₁ nx₁
theorem JoinAt.mk {h₀ : Heap} {L : Addr} {s : Shared} {J : (Str → Option Value) → List (Addr × Obj) → Prop} {h₁ : Heap} {tk₁ : Nat} {m₁ : Str → Option Value} {nx₁ : List (Addr × Obj)} (F : Fr h₀ L h₁ m₁) (N : News h₀ L h₁ nx₁) (hJ : J m₁ nx₁) : JoinAt h₀ L s J .next { s with heap := h₁, toks := tk₁ } :=
  ⟨rfl, _, _, _, _, rfl, F, N, hJ⟩
theorem seq_join {M : Model} {A : Around} {E : Value → Shared → Prop} {s : Shared} {env : Env} {st : Stmt} {rest : List Stmt} {Q : Flow → Shared → Prop} {h₀ : Heap} {L : Addr} (J : (Str → Option Value) → List (Addr × Obj) → Prop)
    (h1 : wpAny M A (exec st env) (JoinAt h₀ L s J) E s) (h2 : ∀ h₁ tk₁ m₁ nx₁, Fr h₀ L h₁ m₁ → News h₀ L h₁ nx₁ → J m₁ nx₁ → wpAny M A (execs rest env) Q E { s with heap := h₁, toks := tk₁ }) :
    wpAny M A (execs (st :: rest) env) Q E s := by
  refine wpAny_execs_cons (wpAny_mono h1 ?_ (fun _ _ h => h))
  rintro f s' ⟨rfl, h₁, tk₁, m₁, nx₁, rfl, F, N, hJ⟩
  exact h2 h₁ tk₁ m₁ nx₁ F N hJ
theorem pile_join {M : Model} {A : Around} {E : Value → Shared → Prop} {s : Shared} {env : Env} {st : Stmt} {rest : List Stmt} {Q : Flow → Shared → Prop} {h₀ : Heap} {L : Addr} {m₁ m₂ : Str → Option Value} {x aP dx : Addr} {P₀ : Params} {tk : Tok} {n1 : Nat} {R : List (Addr × Obj)} {q : Addr × Obj} (nw : List (Addr × Obj)) (lp : List Value) (np : Nat) (out : List Pc) (r₀ : List Pc × Pc)
    (_h1 : m₁ (Str.ofString "pile") = some (.ref x)) (_h2 : m₁ (Str.ofString "pieces") = some (.ref aP)) (_h3 : (dx, dictOf (es0 P₀ tk) n1) ∈ R) (_e : x ≠ q.1) (_F : Fr h₀ L s.heap m₂)
    (h1 : wpAny M A (exec st env) (JoinAt h₀ L s (fun m' nx' => ∃ n', whJ q nw x aP dx P₀ lp np out r₀ n' m' nx')) E s) (h2 : ∀ h₁ tk₁ m₁ nx₁ n', Fr h₀ L h₁ m₁ → News h₀ L h₁ nx₁ → whJ q nw x aP dx P₀ lp np out r₀ n' m₁ nx₁ → wpAny M A (execs rest env) Q E { s with heap := h₁, toks := tk₁ }) :
    wpAny M A (execs (st :: rest) env) Q E s := seq_join _ h1 fun h₁ tk₁ m₁ nx₁ F N ⟨n', hJ⟩ => h2 h₁ tk₁ m₁ nx₁ n' F N hJ
local macro_rules | `(tactic| walk_at "execs cons") => `(tactic| (k_here; (with_reducible show wpAny _ _ (execs (Stmt.Assign [Expr.Tuple _ _ _] (Expr.Call _ _ _ _) _ :: _ :: _) _) _ _ _); refine Stop.go ?_))
theorem pieces_spec (dp un : Nat) (gd : Option (List Code)) (cn : Str) (cs : Scope) (a : Addr) (ccd : Value) (cl : List (Str × Addr)) (outer : List Env) (A₀ : Around) (base h₀ : Heap) (L : Addr) (m : Str → Option Value) (news : List (Addr × Obj)) (s : Shared) (x : Str) (t : Tok) (Q E : Value → Shared → Prop)
   (B : Below A₀ base outer h₀) (F : Fr h₀ L s.heap m) (X : (Kf w.params).In h₀) (N : News h₀ L s.heap news) (T : Top vw (looseW vw lz) mean mg mb h₀) (hk : cs.kind = .function) (hd : dp + 5 < recursionLimit) (hu : un + 300 < cLine) (hx : x.cps.size ≤ 60)
   (hret : ∀ (aP : Addr) (vp : List Value) (np : Nat) (tl : List (Addr × Obj)) (h' : Heap) (tk' : Nat), (∀ q ∈ news, ∀ p ∈ (aP, listOf vp.toArray np) :: tl, q.1 < p.1) → OwnOff tl [aP] → DatAll tl vp ((stN x.cps.toList.reverse x.cps.size).2.map pcD) → Fr h₀ L h' m → News h₀ L h' ((aP, listOf vp.toArray np) :: (tl ++ news)) → Q (.ref aP) { s with heap := h', toks := tk' }) :
   wpAny (model pw w) (ktrTop dp un gd cn cs L a ccd cl outer) (call (.ref 187) [.str x t]) Q E s := by
  refine wpAny_call ?_
  k_dflt (refine' code_def ?k1 ?k2 ?k3 ?k4 ?k5 ?kA ?kF ?kK ?k6 ?k7 ?k8 ?k9 ?kB ?_ ?c2 ?c3 ?c4 ?c5; (case kA => exact rfl); (case kF => exact rfl); (case kK => assumption); (case k1 => k_asm); (case k2 => k_asm); (case k3 => k_asm); (case k4 => k_asm); (case k5 => k_asm); (case k6 => k_is); (case k7 => k_is); (case k8 => ktr_room); (case k9 => exact BindsTo.of_eq rfl); (case c5 => decide); (case kB => exact locs rfl); (case c2 => exact rfl); (case c3 => exact rfl); (case c4 => exact rfl); k_whole; intro g' L' h' FG' F' N' B' X' T'; (try dsimp only); (try k_lift B'))
  conv in fnB _ => whnf
  k_steps
  unfold Stop
  (rename Fr _ _ _ _ => lF)
  (rename News _ _ _ _ => lN)
  (rename _ ∧ _ ∧ AllLt _ _ => hlL)
  (rename ∀ p ∈ news, p.1 < _ => hlD)
  refine iter_strT (pileJ x.cps.toList.reverse news _ _ _ w.params) (by rfl) lF (sub2 lN) (pile_start rfl rfl hlD (by assumption) hlL) ?_ ?_
  · clear lF lN
    rintro i c u m₁ nx h tk I o hc ⟨hm1, hm2, lx, lp, k, np, tk1, n1, R, tl, rfl, hoff, hdx, hR, htl, hDx, hDp⟩ hne F₁ N₁
    have e1 := neH hne
    replace hne := neT hne
    have e2 := neH hne
    replace hne := neT hne
    replace hoff := offI hoff hne
    clear hne
    dsimp only at e1 e2
    have hi : i < x.cps.size := by
      have h1 : i < (Txt.sliceBy x none none _).cps.size := (Array.getElem?_eq_some_iff.mp hc).1
      rw [← Array.length_toList, rev_is, List.length_reverse, Array.length_toList] at h1
      exact h1
    have hcr : x.cps.toList.reverse[i]? = some c := by rw [← rev_is x, Array.getElem?_toList]; exact hc
    have hok := stN_ok x.cps.toList.reverse i
    have F₂ := fr_kst (ps := [(Str.ofString "pile", .ref _), (Str.ofString "pieces", .ref _)]) F₁ (by
      rintro p hp
      simp only [List.mem_cons, List.not_mem_nil, or_false] at hp
      rcases hp with rfl | rfl
      · exact hm1
      · exact hm2)
    clear F₁
    (try dsimp only)
    have hPP : (stN x.cps.toList.reverse i).1 = [] ∨ ∃ t P, (stN x.cps.toList.reverse i).1 = t :: P := by
      cases (stN x.cps.toList.reverse i).1 with
      | nil => exact .inl rfl
      | cons t P => exact .inr ⟨t, P, rfl⟩
    k_steps
    unfold Stop
    (rename Fr _ _ _ _ => lF)
    refine pile_join (q := (I, o)) news lp np (stN x.cps.toList.reverse i).2 (takeIn (stN x.cps.toList.reverse i).1 ([], [c])) hm1 hm2 hdx e1 lF ?_ ?_
    · rcases hPP with hP | ⟨t, P, hP⟩
      · rw [hP] at hDx
        cases hDx
        k_steps
        (rename Fr _ _ _ _ => lF)
        (rename News _ _ _ _ => lN)
        (rename _ ∧ _ ∧ _ ∧ _ ∧ AllLt _ R => hA9)
        (rename _ ∧ _ ∧ _ ∧ AllLt _ R => hA8)
        refine JoinAt.mk lF (perm2 lN) ⟨_, (wh_mk (lx := []) (k := k) (f := []) (h := [c]) (fr := []) (bk := []) (full := []) (P := []) [(_, _), (_, _)] rfl rfl rfl rfl rfl rfl ?_ (lt_two (allLt_R hR (by exact hA9.2.2.2.2)) (allLt_R hR (by exact hA8.2.2.2))) hoff hdx hR htl .nil hDp (.inl ⟨rfl, rfl, rfl, rfl⟩) (by rw [hP]) rfl (fun _ hp => nomatch hp) (by simp [cat]) (by simp [tot]))⟩
        · refine off_cons' ?_ (off_cons' ?_ off_nil)
          · simp only [List.mem_cons, List.not_mem_nil, or_false]
            rintro b (rfl | rfl | rfl) <;> ((try dsimp only); omega)
          · simp only [List.mem_cons, List.not_mem_nil, or_false]
            rintro b (rfl | rfl | rfl) <;> ((try dsimp only); omega)
      · rw [hP, List.reverse_cons, List.map_append] at hDx
        obtain ⟨lx', v, rfl, hDx2, hv⟩ := datAll_snoc hDx
        obtain ⟨av, nv, tv1, tv2, rfl, hav⟩ := pc_at hv
        rw [hP] at hok
        have hPl := tot_ge hok.1
        rw [List.length_cons] at hPl
        have hlx' : lx'.length ≤ 61 := by
          have h1 := hDx2.length
          rw [List.length_map, List.length_reverse] at h1
          omega
        have havR : (av, _) ∈ R := hR ▸ List.mem_append.mpr (.inl hav)
        (rename News _ _ _ _ => lN1)
        rw [← List.push_toArray] at lN1
        k_steps
        (rename Fr _ _ _ _ => lF)
        (rename News _ _ _ _ => lN)
        (rename _ ∧ _ ∧ _ ∧ AllLt _ R => hA8)
        have htk := tot_cons t P
        rw [len_cat] at htk
        refine JoinAt.mk lF (perm1 lN) ⟨_, (wh_mk (lx := lx') (f := []) (h := [c]) (fr := t.1) (bk := t.2) (full := t :: P) (P := P) [(_, _)] rfl rfl rfl rfl rfl rfl ?_ (lt_one (allLt_R hR (by exact hA8.2.2.2))) hoff hdx hR htl hDx2 hDp (.inr rfl) (by rw [hP]) rfl hok.1 (by simp [cat]) (by simp only [List.length_cons, List.length_nil]; omega))⟩
        · refine off_cons' ?_ off_nil
          simp only [List.mem_cons, List.not_mem_nil, or_false]
          rintro b (rfl | rfl | rfl) <;> ((try dsimp only); omega)
    · clear lF
      intro h₆ tk₆ m₆ nx₆ n₆ F₆ N₆ hJ₆
      (try dsimp only)
      k_steps
      unfold Stop
      refine While_inv2 _ F₆ N₆ hJ₆ ?_
      clear F₆ N₆ hJ₆
      rintro n m₁ nx h₁ tk₁ F₁ N₁ ⟨hm1, hm2, f, h, fr, bk, tf, th, tr, tb, full, P, lx, k, tk, n1, R, tl, hf, hh, hfr, hbk, rfl, hoff, hdx, hR, htl, hDx, hDp, hc, hr, hn, hne, hcat, htot⟩
      have F₂ := fr_kst (ps := [(Str.ofString "pile", .ref _), (Str.ofString "pieces", .ref _), (Str.ofString "fore", .str _ _), (Str.ofString "hind", .str _ _), (Str.ofString "front", .str _ _), (Str.ofString "back", .str _ _)]) F₁ (by
        rintro p hp
        simp only [List.mem_cons, List.not_mem_nil, or_false] at hp
        rcases hp with rfl | rfl | rfl | rfl | rfl | rfl
        · exact hm1
        · exact hm2
        · exact hf
        · exact hh
        · exact hfr
        · exact hbk)
      clear F₁
      have hfb : fr.length + bk.length ≤ 61 := by
        rcases hc with ⟨_, _, rfl, rfl⟩ | rfl
        · exact Nat.zero_le _
        · rw [tot_cons, len_cat] at htot
          dsimp only at htot
          omega
      have hfh : f.length + h.length ≤ 61 := by omega
      have hlx : lx.length ≤ 61 := by
        have h1 := hDx.length
        rw [List.length_map, List.length_reverse] at h1
        rcases hc with ⟨_, rfl, _, _⟩ | rfl
        · rw [h1]; exact Nat.zero_le _
        · have h2 := tot_ge hne
          rw [List.length_cons] at h2
          omega
      have hlp : lp.length ≤ 61 := by
        have h1 := hDp.length
        rw [List.length_map] at h1
        have h2 := hok.2.2
        omega
      (try dsimp only)
      k_steps
      · (rename b2i _ - b2i _ < 0 => hlt)
        rw [str_app, str_app] at hlt
        have hL := coll_st.mp hlt
        rcases hc with ⟨rfl, rfl, rfl, rfl⟩ | rfl
        · rw [List.append_nil, ltb_nil] at hL
          cases hL
        rw [take_go hL] at hr
        cases P with
        | nil =>
          cases hDx
          k_steps
          (rename Fr _ _ _ _ => lF)
          (rename News _ _ _ _ => lN)
          (rename _ ∧ _ ∧ _ ∧ _ ∧ AllLt _ R => hA9)
          (rename _ ∧ _ ∧ _ ∧ AllLt _ R => hA8)
          rw [str_app, str_app] at lF
          refine wstep lF (perm2 lN) (n' := 0) ?_ (wh_mk (lx := []) (f := f ++ h) (h := fr ++ bk) (fr := []) (bk := []) (full := []) (P := []) [(_, _), (_, _)] rfl rfl rfl rfl rfl rfl ?_ (lt_two (allLt_R hR (by exact hA9.2.2.2.2)) (allLt_R hR (by exact hA8.2.2.2))) hoff hdx hR htl .nil hDp (.inl ⟨rfl, rfl, rfl, rfl⟩) hr rfl (fun _ hp => nomatch hp) ?_ ?_)
          · rw [hn]
            exact Nat.lt_succ_self _
          · exact off_cons' (by simp only [List.mem_cons, List.not_mem_nil, or_false]; rintro b (rfl | rfl | rfl) <;> ((try dsimp only); omega)) (off_cons' (by simp only [List.mem_cons, List.not_mem_nil, or_false]; rintro b (rfl | rfl | rfl) <;> ((try dsimp only); omega)) off_nil)
          · exact fun e => hcat (List.append_eq_nil_iff.mp e).1
          · rw [tot_cons, len_cat] at htot
            dsimp only at htot
            rw [List.length_append, List.length_append]
            omega
        | cons t' P' =>
          rw [List.reverse_cons, List.map_append] at hDx
          obtain ⟨lx', v, rfl, hDx2, hv⟩ := datAll_snoc hDx
          obtain ⟨av, nv, tv1, tv2, rfl, hav⟩ := pc_at hv
          have havR : (av, _) ∈ R := hR ▸ List.mem_append.mpr (.inl hav)
          have hlx' : lx'.length ≤ 61 := by
            rw [List.length_append] at hlx
            omega
          (rename News _ _ _ _ => lN)
          rw [← List.push_toArray] at lN
          k_steps
          (rename Fr _ _ _ _ => lF)
          (rename News _ _ _ _ => lM)
          (rename _ ∧ _ ∧ _ ∧ AllLt _ R => hA8)
          rw [str_app, str_app] at lF
          refine wstep lF (perm1 lM) (n' := (t' :: P').length) ?_ (wh_mk (lx := lx') (f := f ++ h) (h := fr ++ bk) (fr := t'.1) (bk := t'.2) (full := t' :: P') (P := P') [(_, _)] rfl rfl rfl rfl rfl rfl ?_ (lt_one (allLt_R hR (by exact hA8.2.2.2))) hoff hdx hR htl hDx2 hDp (.inr rfl) hr rfl (fun p hp => hne p (.tail _ hp)) ?_ ?_)
          · rw [hn]
            exact Nat.lt_succ_self _
          · exact off_cons' (by simp only [List.mem_cons, List.not_mem_nil, or_false]; rintro b (rfl | rfl | rfl) <;> ((try dsimp only); omega)) off_nil
          · exact fun e => hcat (List.append_eq_nil_iff.mp e).1
          · rw [tot_cons, len_cat] at htot
            dsimp only at htot
            rw [List.length_append, List.length_append]
            omega
      · (rename ¬ (b2i _ - b2i _ < 0) => hlt)
        (rename (_ != _) = true => hf0)
        rw [str_app, str_app] at hlt
        have hL := not_ltb hlt
        rw [str_app] at hf0
        rcases hc with ⟨rfl, rfl, rfl, rfl⟩ | rfl
        · cases hf0
        have hst := st_next hcr hr (take_stop hL)
        (rename Fr _ _ _ _ => lF)
        (rename News _ _ _ _ => lN)
        simp only [List.push_toArray] at lN
        (rename _ ∧ _ ∧ _ ∧ _ ∧ _ ∧ AllLt _ R => hA7)
        (rename _ ∧ _ ∧ _ ∧ _ ∧ AllLt _ R => hA9)
        (rename _ ∧ _ ∧ _ ∧ AllLt _ R => hA8)
        refine turn_mk (f := (f, h)) (full := (fr, bk) :: P) [(_, _), (_, _), (_, _)] lF lN rfl rfl e1 e2 ?_ (lt_three (allLt_R hR (by exact hA7.2.2.2.2.2)) (allLt_R hR (by exact hA9.2.2.2.2)) (allLt_R hR (by exact hA8.2.2.2))) hoff hdx hR htl hst (dat_two hDx (pc_in (.tail _ (.tail _ (.head _)))) (pc_in (.head _))) (dat_out hDp (pc_in (.tail _ (.head _))))
        exact off_cons' (by simp only [List.mem_cons, List.not_mem_nil, or_false]; rintro b (rfl | rfl | rfl) <;> ((try dsimp only); omega)) (off_cons' (by simp only [List.mem_cons, List.not_mem_nil, or_false]; rintro b (rfl | rfl | rfl) <;> ((try dsimp only); omega)) (off_cons' (by simp only [List.mem_cons, List.not_mem_nil, or_false]; rintro b (rfl | rfl | rfl) <;> ((try dsimp only); omega)) off_nil))
      · (rename ¬ (b2i _ - b2i _ < 0) => hlt)
        (rename (_ != _) = false => hf0)
        rw [str_app, str_app] at hlt
        have hL := not_ltb hlt
        rw [str_app] at hf0
        have hfb0 := str_ne hf0
        have hfull : full = [] ∧ P = [] := by
          rcases hc with ⟨rfl, rfl, _, _⟩ | rfl
          · exact ⟨rfl, rfl⟩
          · exact absurd hfb0 (hne (fr, bk) (.head _))
        obtain ⟨rfl, rfl⟩ := hfull
        have hst := st_next hcr hr (by rfl)
        (rename Fr _ _ _ _ => lF)
        (rename News _ _ _ _ => lN)
        simp only [List.push_toArray] at lN
        (rename _ ∧ _ ∧ _ ∧ _ ∧ AllLt _ R => hA9)
        (rename _ ∧ _ ∧ _ ∧ AllLt _ R => hA8)
        refine turn_mk (f := (f, h)) (full := []) [(_, _), (_, _)] lF lN rfl rfl e1 e2 ?_ (lt_two (allLt_R hR (by exact hA9.2.2.2.2)) (allLt_R hR (by exact hA8.2.2.2))) hoff hdx hR htl hst (dat_one hDx (pc_in (.head _))) (dat_out hDp (pc_in (.tail _ (.head _))))
        exact off_cons' (by simp only [List.mem_cons, List.not_mem_nil, or_false]; rintro b (rfl | rfl | rfl) <;> ((try dsimp only); omega)) (off_cons' (by simp only [List.mem_cons, List.not_mem_nil, or_false]; rintro b (rfl | rfl | rfl) <;> ((try dsimp only); omega)) off_nil)
  · clear lF lN
    rintro m₁ nx h tk ⟨hm1, hm2, lx, lp, k, np, tk1, n1, R, tl, rfl, hoff, hdx, hR, htl, hDx, hDp⟩ F₁ N₁
    have F₂ := fr_kst (ps := [(Str.ofString "pile", .ref _), (Str.ofString "pieces", .ref _)]) F₁ (by
      rintro p hp
      simp only [List.mem_cons, List.not_mem_nil, or_false] at hp
      rcases hp with rfl | rfl
      · exact hm1
      · exact hm2)
    clear F₁
    have hsz : ∀ u, (Txt.sliceBy x none none (-1, u)).cps.size = x.cps.size := fun u => by rw [← Array.length_toList, rev_is, List.length_reverse, Array.length_toList]
    rw [hsz] at hDp
    k_steps
    subst hR
    refine hret _ lp np tl _ _ ?_ ?_ hDp (by assumption) ?_
    · intro q hq p hp
      rcases List.mem_cons.mp hp with rfl | hp
      · exact ktn_ltOf hlL.2.2 q hq
      · exact htl q hq p hp
    · intro p hp b hb
      exact hoff p (List.mem_append.mpr (.inl hp)) b (by rw [List.mem_singleton.mp hb]; exact .tail _ (.head _))
    · (rename News h₀ L _ (_ :: _) => kN9)
      intro p hp
      rcases List.mem_cons.mp hp with rfl | hp
      · exact kN9 _ (.tail _ (.head _))
      · exact kN9 _ (.tail _ (.tail _ hp))
end Mine
end SecPieces
set_option maxRecDepth 100000
set_option maxHeartbeats 8000000
set_option Elab.async false
set_option linter.unusedVariables false
set_option linter.unusedSimpArgs false
open PySem PySem.W PySem.Calls PyProof.Rows PySem.Spec
noncomputable section SecTyped
namespace Mine
variable {w : World} {mean : ExcName → Option Value} {mg mb : Str → Option Value}
theorem regTyped : Kf = Kf ∧ PySem.Challenge.rw_xn0003_01 = PySem.Challenge.rw_xn0003_01 := by
  k_fill
  try (walk1; fail "looked")
  exact ⟨rfl, rfl⟩
local macro_rules | `(tactic| walk_at "exec For") => `(tactic| (k_here; (refine For_T ?_ (fun _ => rfl))))
local macro_rules | `(tactic| walk_at "pyIter ref") => `(tactic| (k_here; refine Stop.go ?_))
noncomputable def mks : List Int := [832, 833, 8206, 8207, 8234, 8235, 8236, 8237, 8238, 8298, 8299, 8300, 8301, 8302, 8303]
noncomputable def bsd : List Int := [12271, 12284, 831, 834, 8205, 8208, 8233, 8239, 8297, 8304, 917504, 917506, 917535, 917632, 97, 65529]
noncomputable def base8I : List Int := [4854, 7760, 72, 541, 7850, 5833, 6786, 7917]
noncomputable def kindI (x : Int) : Int := (x.fmod 5).fdiv 2
noncomputable def whichI (x : Int) : Int := ((x.fmod 8245).fdiv 5).fmod 97
noncomputable def aheadI (x : Int) : Int := (x.fmod 8245).fdiv 485
noncomputable def sgA (x : Int) : List Nat := if aheadI x < 16 then [(bsd.getD (aheadI x).toNat 0).toNat] else []
noncomputable def sgK (x : Int) : List Nat := if kindI x = 0 then [(12272 + (whichI x).fmod 12).toNat] else if kindI x = 1 then [(mks.getD ((whichI x).fmod 15).toNat 0).toNat] else if whichI x = 0 then [917505] else [(917535 + whichI x).toNat]
noncomputable def signs (x : Int) : List Nat := sgA x ++ sgK x
noncomputable def typJ (xs : List Int) (p1 p2 p3 : Addr × Obj) (lk lm lb : Addr) (R : List (Addr × Obj)) (i : Nat) (m : Str → Option Value) (nx : List (Addr × Obj)) : Prop :=
  m (Str.ofString "kinds") = some (.ref lk) ∧ m (Str.ofString "marks") = some (.ref lm) ∧ m (Str.ofString "beside") = some (.ref lb) ∧ ∃ (y : List Nat) (t : Tok) (vk : List Value) (nk : Nat), m (Str.ofString "typed") = some (.str ⟨y.toArray⟩ t) ∧ y = (xs.take i).flatMap signs ∧ nx = p1 :: p2 :: p3 :: (lk, listOf vk.toArray nk) :: R ∧ IntsAre vk ((xs.take i).map kindI)
theorem sg1 {x : Int} (h : ¬ aheadI x < 16) : sgA x = [] := if_neg h
theorem sg2 {x : Int} (h : aheadI x < 16) : sgA x = [(bsd.getD (aheadI x).toNat 0).toNat] := if_pos h
theorem sgk0 {x : Int} (h : kindI x = 0) : sgK x = [(12272 + (whichI x).fmod 12).toNat] := if_pos h
theorem sgk1 {x : Int} (h0 : kindI x ≠ 0) (h : kindI x = 1) : sgK x = [(mks.getD ((whichI x).fmod 15).toNat 0).toNat] := by unfold sgK; rw [if_neg h0, if_pos h]
theorem sgk2 {x : Int} (h0 : kindI x ≠ 0) (h1 : kindI x ≠ 1) (h : whichI x = 0) : sgK x = [917505] := by unfold sgK; rw [if_neg h0, if_neg h1, if_pos h]
theorem sgk3 {x : Int} (h0 : kindI x ≠ 0) (h1 : kindI x ≠ 1) (h : whichI x ≠ 0) : sgK x = [(917535 + whichI x).toNat] := by unfold sgK; rw [if_neg h0, if_neg h1, if_neg h]
theorem sig_a {x : Int} {a b : Nat} {y : List Nat} (hA : sgA x = [a]) (hK : sgK x = [b]) : y ++ [a] ++ [b] = y ++ signs x := by unfold signs; rw [hA, hK, List.append_assoc]
theorem sig_n {x : Int} {b : Nat} {y : List Nat} (hA : sgA x = []) (hK : sgK x = [b]) : y ++ [b] = y ++ signs x := by unfold signs; rw [hA, hK]; rfl
theorem sg_len (x : Int) : (signs x).length ≤ 2 := by
  have h1 : (sgA x).length ≤ 1 := by unfold sgA; split <;> simp
  have h2 : (sgK x).length ≤ 1 := by unfold sgK; (repeat' split) <;> simp
  unfold signs
  rw [List.length_append]
  omega
theorem sgs_len (l : List Int) : (l.flatMap signs).length ≤ 2 * l.length := by
  induction l with
  | nil => exact Nat.le_refl _
  | cons x l ih =>
    rw [List.flatMap_cons, List.length_append, List.length_cons]
    have := sg_len x
    omega
theorem fmod_lo (a : Int) {b : Int} (h : 0 < b) : 0 ≤ a.fmod b ∧ a.fmod b < b := by
  rw [Int.fmod_eq_emod_of_nonneg _ (Int.le_of_lt h)]
  exact ⟨Int.emod_nonneg _ (Int.ne_of_gt h), Int.emod_lt_of_pos _ h⟩
theorem ahead_lo (x : Int) : 0 ≤ (x.fmod 8245).fdiv 485 := by
  rw [Int.fdiv_eq_ediv_of_nonneg _ (by decide)]
  exact Int.ediv_nonneg (fmod_lo x (by decide)).1 (by decide)
theorem which_lo (x : Int) : 0 ≤ ((x.fmod 8245).fdiv 5).fmod 97 ∧ ((x.fmod 8245).fdiv 5).fmod 97 < 97 := fmod_lo _ (by decide)
theorem kind_lo (x : Int) : 0 ≤ (x.fmod 5).fdiv 2 ∧ (x.fmod 5).fdiv 2 < 3 := by
  rw [Int.fdiv_eq_ediv_of_nonneg _ (by decide)]
  have := fmod_lo x (b := 5) (by decide)
  omega
theorem bsd_ok (n : Nat) : 0 ≤ bsd.getD n 0 ∧ bsd.getD n 0 ≤ 1114111 := by
  by_cases h : n < 16
  · exact (by decide : ∀ n < 16, 0 ≤ bsd.getD n 0 ∧ bsd.getD n 0 ≤ 1114111) n h
  · have e : bsd.getD n 0 = 0 := by
      rw [List.getD_eq_getElem?_getD, List.getElem?_eq_none (by show 16 ≤ n; omega)]; rfl
    rw [e]; decide
theorem mks_ok (n : Nat) : 0 ≤ mks.getD n 0 ∧ mks.getD n 0 ≤ 1114111 := by
  by_cases h : n < 15
  · exact (by decide : ∀ n < 15, 0 ≤ mks.getD n 0 ∧ mks.getD n 0 ≤ 1114111) n h
  · have e : mks.getD n 0 = 0 := by
      rw [List.getD_eq_getElem?_getD, List.getElem?_eq_none (by show 15 ≤ n; omega)]; rfl
    rw [e]; decide
section
variable {prog : Program} {w : World} {A : Around} {E : Value → Shared → Prop} {s : Shared} {Q : Value → Shared → Prop}
theorem iadd_l {f h : List Nat} {t u : Tok} (hz : f.length + h.length ≤ 64) (hq : ∀ t' k, Q (.str ⟨(f ++ h).toArray⟩ t') { s with toks := k }) : wpAny (model prog w) A (inplaceOp .Add (.str ⟨f.toArray⟩ t) (.str ⟨h.toArray⟩ u)) Q E s := by
  refine SBL.iadd (hsz := ?_) (fun t' k _ => ?_)
  · rw [str_app]
    exact hq t' k
  · show f.toArray.size + h.toArray.size ≤ _
    rw [List.size_toArray, List.size_toArray, sizeLine_eq]; omega
end
theorem typ_next {xs : List Int} {p1 p2 p3 q : Addr × Obj} {lk lm lb : Addr} {o0 : Obj} {R : List (Addr × Obj)} {i : Nat} {x k : Int} {h₀ h' : Heap} {L : Addr} {m' : Str → Option Value} {y y' : List Nat} {t tk : Tok} {vk : List Value} {nk : Nat} {s₁ : Shared} {tk' : Nat} {Q : Flow → Shared → Prop}
    (F : Fr h₀ L h' m') (N : News h₀ L h' (q :: p1 :: p2 :: p3 :: (lk, listOf (vk ++ [Value.int k tk]).toArray nk) :: R)) (hne : ∀ p ∈ p1 :: p2 :: p3 :: (lk, o0) :: R, p.1 ≠ q.1)
    (h1 : m' (Str.ofString "kinds") = some (.ref lk)) (h2 : m' (Str.ofString "marks") = some (.ref lm)) (h3 : m' (Str.ofString "beside") = some (.ref lb)) (h4 : m' (Str.ofString "typed") = some (.str ⟨y'.toArray⟩ t))
    (hx : xs[i]? = some x) (hy : y = (xs.take i).flatMap signs) (hs : y' = y ++ signs x) (hK : IntsAre vk ((xs.take i).map kindI)) (hk : k = kindI x) :
    TurnT h₀ L (typJ xs p1 p2 p3 lk lm lb R (i + 1)) q s₁ Q .next { s₁ with heap := h', toks := tk' } := by
  refine TurnT.next (nx := p1 :: p2 :: p3 :: (lk, listOf (vk ++ [Value.int k tk]).toArray nk) :: R) F N (.head _) (fun p hp => .tail _ hp) (fun p hp => ?_) ⟨h1, h2, h3, y', t, vk ++ [Value.int k tk], nk, h4, ?_, rfl, ?_⟩
  · simp only [List.mem_cons] at hp hne
    rcases hp with rfl | rfl | rfl | rfl | hp
    · exact hne _ (.inl rfl)
    · exact hne _ (.inr (.inl rfl))
    · exact hne _ (.inr (.inr (.inl rfl)))
    · exact hne (lk, o0) (.inr (.inr (.inr (.inl rfl))))
    · exact hne _ (.inr (.inr (.inr (.inr hp))))
  · rw [List.take_add_one, hx, List.flatMap_append, hs, hy]
    simp
  · rw [List.take_add_one, hx, List.map_append, hk]
    exact hK.append (.cons _ _ .nil)
local macro_rules | `(tactic| walk_at "inplaceOp Add str str") => `(tactic| (k_here; refine iadd_l (by simp only [List.length_append, List.length_cons, List.length_nil]; omega) ?_; intro t9 k9))
local macro_rules | `(tactic| walk_at "call builtin:chr") => `(tactic| (k_here; first | refine chr_of_range (bsd_ok _).1 (bsd_ok _).2 ?_ | refine chr_of_range (mks_ok _).1 (mks_ok _).2 ?_ | refine chr_of_range (by omega) (by omega) ?_))
theorem typed_spec (dp un : Nat) (gd : Option (List Code)) (cn : Str) (cs : Scope) (a : Addr) (ccd : Value) (cl : List (Str × Addr)) (outer : List Env) (A₀ : Around) (base h₀ : Heap) (L : Addr) (m : Str → Option Value) (news : List (Addr × Obj)) (s : Shared) (al : Addr) (vs : List Value) (ns : List Int) (Q E : Value → Shared → Prop)
   (B : Below A₀ base outer h₀) (F : Fr h₀ L s.heap m) (X : (Kf w.params).In h₀) (N : News h₀ L s.heap news) (T : Top vw (looseW vw lz) mean mg mb h₀) (hk : cs.kind = .function) (hd : dp + 5 < recursionLimit) (hu : un + 300 < cLine) (hl : h₀.IsList al vs.toArray) (hI : IntsAre vs ns) (hn : ns.length ≤ 63)
   (hret : ∀ (aT aK : Addr) (vk : List Value) (nk : Nat) (y : List Nat) (t : Tok) (h' : Heap) (tk' : Nat), y = (base8I ++ ns.take 5).flatMap signs → IntsAre vk ((base8I ++ ns.take 5).map kindI) → aK < aT → (∀ p ∈ news, p.1 < aK) → Fr h₀ L h' m → News h₀ L h' ((aT, { cls := .type "tuple", data := .seq #[.ref aK, .str ⟨y.toArray⟩ t] }) :: (aK, listOf vk.toArray nk) :: news) → Q (.ref aT) { s with heap := h', toks := tk' }) :
   wpAny (model pw w) (ktrTop dp un gd cn cs L a ccd cl outer) (call (.ref 173) [.ref al]) Q E s := by
  have hlen : vs.length = ns.length := hI.length
  refine wpAny_call ?_
  k_dflt (refine' code_def ?k1 ?k2 ?k3 ?k4 ?k5 ?kA ?kF ?kK ?k6 ?k7 ?k8 ?k9 ?kB ?_ ?c2 ?c3 ?c4 ?c5; (case kA => exact rfl); (case kF => exact rfl); (case kK => assumption); (case k1 => k_asm); (case k2 => k_asm); (case k3 => k_asm); (case k4 => k_asm); (case k5 => k_asm); (case k6 => k_is); (case k7 => k_is); (case k8 => ktr_room); (case k9 => exact BindsTo.of_eq rfl); (case c5 => decide); (case kB => exact locs rfl); (case c2 => exact rfl); (case c3 => exact rfl); (case c4 => exact rfl); k_whole; intro g' L' h' FG' F' N' B' X' T'; (try dsimp only); (try k_lift B'))
  conv in fnB _ => whnf
  have hl' := FG'.lst hl
  have hsz5 : vs.toArray.size ≤ sizeLine := by rw [List.size_toArray, hlen, sizeLine_eq]; omega
  k_steps
  unfold Stop
  (rename Fr _ _ _ _ => lF)
  (rename News _ _ _ _ => lN)
  (rename IntsAre _ (_ ++ _) => hX)
  generalize hxs : ([4854, 7760, 72, 541, 7850, 5833, 6786, 7917] ++ List.take 5 ns : List Int) = xs at hX
  refine iter_listT (typJ xs (_, _) (_, _) (_, _) _ _ _ _) rfl (.head _) (fun i m nx hJ => by obtain ⟨-, -, -, y, t, vk, nk, -, -, rfl, -⟩ := hJ; exact .head _) lF lN ⟨rfl, rfl, rfl, [], _, [], 0, rfl, rfl, rfl, .nil⟩ ?_ ?_
  · clear lF lN
    rintro i v m₁ nx h tk I o hv ⟨hm1, hm2, hm3, y, t, vk, nk, hm4, hy, rfl, hK⟩ hne F₁ N₁
    obtain ⟨x, tx, rfl, hx⟩ := hX.at i v hv
    have F₂ := fr_kst (ps := [(Str.ofString "kinds", .ref _), (Str.ofString "marks", .ref _), (Str.ofString "beside", .ref _), (Str.ofString "typed", .str _ _)]) F₁ (by
      rintro p hp
      simp only [List.mem_cons, List.not_mem_nil, or_false] at hp
      rcases hp with rfl | rfl | rfl | rfl
      · exact hm1
      · exact hm2
      · exact hm3
      · exact hm4)
    clear F₁
    have e4 := neH (neT (neT (neT hne)))
    dsimp only at e4
    have hb1 := ahead_lo x
    have hb2 := which_lo x
    have hb3 := fmod_lo (((x.fmod 8245).fdiv 5).fmod 97) (b := 12) (by decide)
    have hb4 := fmod_lo (((x.fmod 8245).fdiv 5).fmod 97) (b := 15) (by decide)
    have hxl : xs.length ≤ 13 := by
      rw [← hxs, List.length_append, List.length_take]
      simp only [List.length_cons, List.length_nil]
      omega
    have hyl : y.length ≤ 26 := by
      rw [hy]
      refine Nat.le_trans (sgs_len _) ?_
      rw [List.length_take]
      omega
    have hvk : vk.length ≤ 13 := by
      rw [hK.length, List.length_map, List.length_take]
      omega
    k_steps
    all_goals
      (rename Fr _ _ _ _ => lF)
      (rename News _ _ _ _ => lN)
      simp only [List.push_toArray] at lN
      refine typ_next lF lN hne rfl rfl rfl rfl hx hy ?_ hK rfl
      first
        | exact sig_a (sg2 (by assumption)) (sgk0 (by assumption))
        | exact sig_a (sg2 (by assumption)) (sgk1 (by assumption) (by assumption))
        | exact sig_a (sg2 (by assumption)) (sgk2 (by assumption) (by assumption) (by assumption))
        | exact sig_a (sg2 (by assumption)) (sgk3 (by assumption) (by assumption) (by assumption))
        | exact sig_n (sg1 (by assumption)) (sgk0 (by assumption))
        | exact sig_n (sg1 (by assumption)) (sgk1 (by assumption) (by assumption))
        | exact sig_n (sg1 (by assumption)) (sgk2 (by assumption) (by assumption) (by assumption))
        | exact sig_n (sg1 (by assumption)) (sgk3 (by assumption) (by assumption) (by assumption))
  · clear lF lN
    rintro m₁ nx h tk ⟨hm1, hm2, hm3, y, t, vk, nk, hm4, hy, rfl, hK⟩ F₁ N₁
    have F₂ := fr_kst (ps := [(Str.ofString "kinds", .ref _), (Str.ofString "marks", .ref _), (Str.ofString "beside", .ref _), (Str.ofString "typed", .str _ _)]) F₁ (by
      rintro p hp
      simp only [List.mem_cons, List.not_mem_nil, or_false] at hp
      rcases hp with rfl | rfl | rfl | rfl
      · exact hm1
      · exact hm2
      · exact hm3
      · exact hm4)
    clear F₁
    rw [hX.length, List.take_length] at hy hK
    k_steps
    rw [← hxs] at hy hK
    (rename _ ∧ _ ∧ _ ∧ _ ∧ _ ∧ _ ∧ AllLt _ news => hT)
    (rename _ ∧ _ ∧ AllLt _ news => hq)
    refine hret _ _ vk nk y t _ _ hy hK (by exact hT.2.2.2.1) (fun p hp => ktn_ltOf hq.2.2 p hp) (by assumption) ?_
    (rename News h₀ L _ (_ :: _) => kN9)
    intro p hp
    rcases List.mem_cons.mp hp with rfl | hp
    · exact kN9 _ (.head _)
    · rcases List.mem_cons.mp hp with rfl | hp
      · exact kN9 _ (.tail _ (.tail _ (.tail _ (.tail _ (.head _)))))
      · exact kN9 _ (.tail _ (.tail _ (.tail _ (.tail _ (.tail _ (.tail _ (.tail _ hp)))))))
end Mine
end SecTyped
set_option maxRecDepth 100000
set_option maxHeartbeats 8000000
set_option Elab.async false
set_option linter.unusedVariables false
set_option linter.unusedSimpArgs false
open PySem PySem.W PySem.Calls PyProof.Rows PySem.Spec
noncomputable section SecTypedR
namespace Mine
variable {w : World} {mean : ExcName → Option Value} {mg mb : Str → Option Value}
theorem regTypedR : Kf = Kf ∧ PySem.Challenge.rw_xn0003_01 = PySem.Challenge.rw_xn0003_01 := by
  k_fill
  try (walk1; fail "looked")
  exact ⟨rfl, rfl⟩
noncomputable def letter (ab : Bool) (k : Nat) : Nat := if ab then 97 + k else 99 - k
noncomputable def wordOf (ab : Bool) (ks : List Nat) : List Nat := ks.map (letter ab)
noncomputable def kindN (x : Int) : Nat := (kindI x).toNat
noncomputable def ksOf (ns : List Int) : List Nat := (base8I ++ ns.take 5).map kindN
theorem ks_ints (l : List Int) : (l.map kindN).map Int.ofNat = l.map kindI := by
  rw [List.map_map]
  refine List.map_congr_left fun x _ => ?_
  exact Int.toNat_of_nonneg (kind_lo x).1
theorem ks_len (ns : List Int) : (ksOf ns).length ≤ 13 := by
  unfold ksOf
  rw [List.length_map, List.length_append, List.length_take]
  have : base8I.length = 8 := rfl
  omega
theorem sgo0 {a b c n : Nat} (h : in7 n = false) (h2 : in8 n = false) (h3 : in9 n = false) : signOf a b c n = [] := by unfold signOf; rw [h, h2, h3]; rfl
theorem sgo7 {a b c n : Nat} (h : in7 n = true) : signOf a b c n = [a] := by unfold signOf; rw [h]; rfl
theorem sgo8 {a b c n : Nat} (h : in7 n = false) (h2 : in8 n = true) : signOf a b c n = [b] := by unfold signOf; rw [h, h2]; rfl
theorem sgo9 {a b c n : Nat} (h : in7 n = false) (h2 : in8 n = false) (h3 : in9 n = true) : signOf a b c n = [c] := by unfold signOf; rw [h, h2, h3]; rfl
theorem read_sgA (a b c : Nat) (x : Int) : readOf a b c (sgA x) = [] := by
  unfold sgA
  split
  · rename_i h
    have h0 : 0 ≤ aheadI x := ahead_lo x
    have h1 : (aheadI x).toNat < 16 := by omega
    have h2 := (by decide : ∀ n < 16, in7 ((bsd.getD n 0).toNat : Nat) = false ∧ in8 ((bsd.getD n 0).toNat : Nat) = false ∧ in9 ((bsd.getD n 0).toNat : Nat) = false) _ h1
    show [_].flatMap _ = _
    rw [List.flatMap_singleton, sgo0 h2.1 h2.2.1 h2.2.2]
  · rfl
theorem read_sgK (a b c : Nat) (x : Int) : readOf a b c (sgK x) = [if kindI x = 0 then a else if kindI x = 1 then b else c] := by
  have hw : 0 ≤ whichI x ∧ whichI x < 97 := which_lo x
  have hb3 := fmod_lo (whichI x) (b := 12) (by decide)
  have hb4 := fmod_lo (whichI x) (b := 15) (by decide)
  unfold sgK
  by_cases h0 : kindI x = 0
  · rw [if_pos h0, if_pos h0]
    show [_].flatMap _ = _
    rw [List.flatMap_singleton, sgo7]
    unfold in7
    rw [decide_eq_true_iff]
    omega
  · rw [if_neg h0, if_neg h0]
    by_cases h1 : kindI x = 1
    · rw [if_pos h1, if_pos h1]
      have h2 := (by decide : ∀ n < 15, in7 ((mks.getD n 0).toNat : Nat) = false ∧ in8 ((mks.getD n 0).toNat : Nat) = true) ((whichI x).fmod 15).toNat (by omega)
      show [_].flatMap _ = _
      rw [List.flatMap_singleton, sgo8 h2.1 h2.2]
    · rw [if_neg h1, if_neg h1]
      by_cases h2 : whichI x = 0
      · rw [if_pos h2]
        show [_].flatMap _ = _
        rw [List.flatMap_singleton, sgo9 (by decide) (by decide) (by decide)]
      · rw [if_neg h2]
        show [_].flatMap _ = _
        rw [List.flatMap_singleton, sgo9]
        · unfold in7; rw [decide_eq_false_iff_not]; omega
        · unfold in8; rw [decide_eq_false_iff_not]; omega
        · unfold in9; rw [decide_eq_true_iff]; omega
theorem read_signs (a b c : Nat) (l : List Int) : readOf a b c (l.flatMap signs) = l.map fun x => if kindI x = 0 then a else if kindI x = 1 then b else c := by
  induction l with
  | nil => rfl
  | cons x l ih =>
    have e : ∀ p q : List Nat, readOf a b c (p ++ q) = readOf a b c p ++ readOf a b c q := fun p q => List.flatMap_append
    rw [List.flatMap_cons, e, ih, List.map_cons]
    unfold signs
    rw [e, read_sgA, read_sgK]
    rfl
theorem read_true (l : List Int) : readOf 97 98 99 (l.flatMap signs) = wordOf true (l.map kindN) := by
  rw [read_signs, wordOf, List.map_map]
  refine List.map_congr_left fun x _ => ?_
  have h := kind_lo x
  show _ = 97 + (kindI x).toNat
  have h' : 0 ≤ kindI x ∧ kindI x < 3 := h
  by_cases h0 : kindI x = 0
  · rw [if_pos h0]; omega
  · rw [if_neg h0]
    by_cases h1 : kindI x = 1
    · rw [if_pos h1]; omega
    · rw [if_neg h1]; omega
theorem read_false (l : List Int) : readOf 99 98 97 (l.flatMap signs) = wordOf false (l.map kindN) := by
  rw [read_signs, wordOf, List.map_map]
  refine List.map_congr_left fun x _ => ?_
  have h := kind_lo x
  show _ = 99 - (kindI x).toNat
  have h' : 0 ≤ kindI x ∧ kindI x < 3 := h
  by_cases h0 : kindI x = 0
  · rw [if_pos h0]; omega
  · rw [if_neg h0]
    by_cases h1 : kindI x = 1
    · rw [if_pos h1]; omega
    · rw [if_neg h1]; omega
theorem typed_spec2 (dp un : Nat) (gd : Option (List Code)) (cn : Str) (cs : Scope) (a : Addr) (ccd : Value) (cl : List (Str × Addr)) (outer : List Env) (A₀ : Around) (base h₀ : Heap) (L : Addr) (m : Str → Option Value) (news : List (Addr × Obj)) (s : Shared) (al : Addr) (vs : List Value) (ns : List Int) (Q E : Value → Shared → Prop)
   (B : Below A₀ base outer h₀) (F : Fr h₀ L s.heap m) (X : (Kf w.params).In h₀) (N : News h₀ L s.heap news) (T : Top vw (looseW vw lz) mean mg mb h₀) (hk : cs.kind = .function) (hd : dp + 5 < recursionLimit) (hu : un + 300 < cLine) (hl : h₀.IsList al vs.toArray) (hI : IntsAre vs ns) (hn : ns.length ≤ 63)
   (hret : ∀ (aT aK : Addr) (vk : List Value) (nk : Nat) (y : Str) (t : Tok) (h' : Heap) (tk' : Nat), y.cps.size ≤ 64 → readOf 97 98 99 y.cps.toList = wordOf true (ksOf ns) → readOf 99 98 97 y.cps.toList = wordOf false (ksOf ns) → IntsAre vk ((ksOf ns).map Int.ofNat) → aK < aT → (∀ p ∈ news, p.1 < aK) → Fr h₀ L h' m → News h₀ L h' ((aT, { cls := .type "tuple", data := .seq #[.ref aK, .str y t] }) :: (aK, listOf vk.toArray nk) :: news) → Q (.ref aT) { s with heap := h', toks := tk' }) :
   wpAny (model pw w) (ktrTop dp un gd cn cs L a ccd cl outer) (call (.ref 173) [.ref al]) Q E s := by
  refine typed_spec _ _ _ _ _ _ _ _ _ _ _ _ _ _ _ _ _ _ _ _ _ B F X N T hk hd hu hl hI hn ?_
  intro aT aK vk nk y t h' tk' hy hK h1 h2 F' N'
  refine hret aT aK vk nk ⟨y.toArray⟩ t h' tk' ?_ ?_ ?_ ?_ h1 h2 F' N'
  · rw [hy]
    show (List.toArray _).size ≤ _
    rw [List.size_toArray]
    refine Nat.le_trans (sgs_len _) ?_
    rw [List.length_append, List.length_take]
    have : base8I.length = 8 := rfl
    omega
  · show readOf _ _ _ (List.toArray y).toList = _
    rw [List.toList_toArray, hy]
    exact read_true _
  · show readOf _ _ _ (List.toArray y).toList = _
    rw [List.toList_toArray, hy]
    exact read_false _
  · unfold ksOf
    rw [ks_ints]
    exact hK
end Mine
end SecTypedR
set_option maxRecDepth 100000
set_option maxHeartbeats 8000000
set_option Elab.async false
set_option linter.unusedVariables false
set_option linter.unusedSimpArgs false
open PySem PySem.W PySem.Calls PyProof.Rows PySem.Spec
noncomputable section SecMin
namespace Mine
variable {w : World} {mean : ExcName → Option Value} {mg mb : Str → Option Value}
theorem regMin : Kf = Kf ∧ PySem.Challenge.rw_xn0003_01 = PySem.Challenge.rw_xn0003_01 := by
  k_fill
  try (walk1; fail "looked")
  exact ⟨rfl, rfl⟩
noncomputable def minOf : List (List Nat) → List Nat
  | [] => []
  | x :: r => r.foldl (fun m y => if ltb y m then y else m) x
theorem minOf_snoc {l : List (List Nat)} (h : l ≠ []) (y : List Nat) : minOf (l ++ [y]) = if ltb y (minOf l) then y else minOf l := by
  cases l with
  | nil => exact absurd rfl h
  | cons x r =>
    show (r ++ [y]).foldl _ x = _
    rw [List.foldl_append]
    rfl
theorem minOf_best (l : List (List Nat)) : ∀ k, k < l.length → l.getD (argBest (fun i j => ltb (l.getD i []) (l.getD j [])) k) [] = minOf (l.take (k + 1))
  | 0, h => by
    cases l with
    | nil => cases h
    | cons x r => rfl
  | k + 1, h => by
    have ih := minOf_best l k (by omega)
    have h1 : l.take (k + 2) = l.take (k + 1) ++ [l[k + 1]] := by rw [List.take_add_one, List.getElem?_eq_getElem h]; rfl
    have h2 : l.getD (k + 1) [] = l[k + 1] := by rw [List.getD_eq_getElem?_getD, List.getElem?_eq_getElem h]; rfl
    have h3 : l.take (k + 1) ≠ [] := fun e => by
      have h4 : (l.take (k + 1)).length = 0 := by rw [e]; rfl
      rw [List.length_take] at h4
      omega
    rw [h1, minOf_snoc h3, ← ih, ← h2]
    show l.getD (if ltb (l.getD (k + 1) []) (l.getD (argBest _ k) []) then k + 1 else argBest _ k) [] = _
    split
    · rfl
    · rfl
section
variable {prog : Program} {w : World} {A : Around} {E : Value → Shared → Prop} {s : Shared} {l : Addr} {h₀ : Heap} {L : Addr} {m : Str → Option Value} {news : List (Addr × Obj)} {vs : List Value} {nn : Nat} {ys : List Str}
theorem CmpOf.strs {P : Nat → Value → Prop} (val : Nat → List Nat) (hval : ∀ i v, P i v → ∃ x t, v = .str x t ∧ x.cps.toList = val i) :
    CmpOf prog w A .Lt P (fun i j => ltb (val i) (val j)) := fun i j vi vj s Q E hi hj h => by
  obtain ⟨x, t, rfl, e1⟩ := hval i vi hi
  obtain ⟨y, u, rfl, e2⟩ := hval j vj hj
  show wpAny _ _ (compareOp .Lt (.str x t) (.str y u)) _ _ _
  refine lt_str ?_
  rw [e1, e2]
  exact h
theorem iter_l {its : Array Value} {Q : Value → Shared → Prop} (hl : s.heap.IsList l its)
    (h : ∀ s₂ : Shared, s₂ = { s with heap := s.heap.push { cls := .type "list_iterator", data := .fields #[.ref l, .int 0 0] } } →
      (s₂.heap.IsListIter s.heap.objs.size l 0 ∧ s₂.heap.IsList l its) → (∀ b ∈ [s.heap.objs.size, l], b < s₂.heap.objs.size) → l ≠ s.heap.objs.size → Q (.ref s.heap.objs.size) s₂) :
    wpAny (model prog w) A (pyIter (.ref l)) Q E s := by
  have hlt : l < s.heap.objs.size := by obtain ⟨_, e, _⟩ := hl; exact Heap.lt_size e
  refine wpAny_pyIter_list hl (h _ rfl ⟨⟨_, Heap.get?_push_size _ rfl, rfl, rfl⟩, hl.push _⟩ (fun b hb => ?_) (Nat.ne_of_lt hlt))
  show b < (s.heap.push _).objs.size
  rw [Heap.size_push]
  rcases List.mem_cons.mp hb with rfl | hb
  · exact Nat.lt_succ_self _
  · rw [List.mem_singleton.mp hb]
    exact Nat.lt_succ_of_lt hlt
theorem min_strs {Q : Value → Shared → Prop} (hh : A.handled = none) (F : Fr h₀ L s.heap m) (N : News h₀ L s.heap news) (hm : (l, listOf vs.toArray nn) ∈ news) (hi : StrsAre vs ys) (hne : 0 < ys.length)
    (h : ∀ x t h' tk, x.cps.toList = minOf (ys.map fun y => y.cps.toList) → Fr h₀ L h' m → News h₀ L h' news → Q (.str x t) { s with heap := h', toks := tk }) :
    wpAny (model prog w) A (call (.builtin "min") [.ref l]) Q E s := by
  have hl : s.heap.IsList l vs.toArray := ⟨_, (N _ hm).1, rfl, nn, rfl⟩
  have hlen : vs.length = ys.length := hi.length
  have hat : ∀ i v, vs.toArray[i]? = some v → ∃ x t, v = .str x t ∧ x.cps.toList = (ys.map fun y => y.cps.toList).getD i [] := fun i v hv => by
    obtain ⟨y, t, rfl, hy⟩ := hi.item i v (by simpa using hv)
    exact ⟨y, t, rfl, by rw [List.getD_eq_getElem?_getD, List.getElem?_map, hy]; rfl⟩
  refine call_min_walk (iter_l hl fun s₂ e st hfp hlI => ?_)
  subst e
  refine ⟨_, _, _, _, _, _, _, rfl, Walks.list (A := A.in1) hh _ l hlI vs.toArray, st, hfp, by rw [List.size_toArray, hlen]; exact hne, CmpOf.strs (fun i => (ys.map fun y => y.cps.toList).getD i []) hat, fun v h' tk hP hk => ?_⟩
  obtain ⟨x, t, rfl, hx⟩ := hat _ _ hP
  have hk' := old_kept hk
  refine h x t h' tk ?_ (F.grownK hk') (N.grown hk')
  rw [hx, List.size_toArray, hlen]
  rw [minOf_best _ _ (by rw [List.length_map]; omega)]
  rw [List.take_of_length_le (by rw [List.length_map]; omega)]
end
end Mine
end SecMin
set_option maxRecDepth 100000
set_option maxHeartbeats 8000000
set_option Elab.async false
set_option linter.unusedVariables false
set_option linter.unusedSimpArgs false
open PySem PySem.W PySem.Calls PyProof.Rows PySem.Spec
noncomputable section SecLawPure
namespace Mine
variable {w : World} {mean : ExcName → Option Value} {mg mb : Str → Option Value}
theorem regLawPure : Kf = Kf ∧ PySem.Challenge.rw_xn0003_01 = PySem.Challenge.rw_xn0003_01 := by
  k_fill
  try (walk1; fail "looked")
  exact ⟨rfl, rfl⟩
noncomputable def startOf (w : List Nat) (place size : Nat) : Nat := upS w size place
noncomputable def endOf (w : List Nat) (place size : Nat) : Nat := upE w size (w.length - (place + size)) (place + size)
noncomputable def szOf (p : Pc) : Nat := p.1.length + p.2.length
noncomputable def minOk (w : List Nat) (place : Nat) (p : Pc) : Bool :=
  !(decide (1 < szOf p)) || w.drop (place + p.1.length) == minOf ((List.range (szOf p - 1)).map fun j => w.drop (place + 1 + j))
noncomputable def isLess (ab : Bool) (w : List Nat) (e z : Nat) : Bool :=
  if e = w.length then ab else ltb [w.getD e 0] [w.getD (e - z) 0]
noncomputable def turnOk (w : List Nat) (due : List Tri) (place : Nat) (p : Pc) : Bool :=
  decide (place + szOf p ≤ w.length) && decide (1 ≤ szOf p) && minOk w place p &&
    (!(decide (2 * szOf p ≤ endOf w place (szOf p) - startOf w place (szOf p))) || due.contains (startOf w place (szOf p), endOf w place (szOf p), szOf p))
noncomputable def ownsTurn (ab : Bool) (w : List Nat) (place : Nat) (p : Pc) : Option Tri :=
  if 2 * szOf p ≤ endOf w place (szOf p) - startOf w place (szOf p) ∧ isLess ab w (endOf w place (szOf p)) (szOf p) = true ∧ startOf w place (szOf p) < place then
    some (startOf w place (szOf p), endOf w place (szOf p), szOf p) else none
noncomputable def pcsOf (w : List Nat) : List Pc := (stN w.reverse w.length).2
noncomputable def ownN (ab : Bool) (w : List Nat) (j : Nat) : List (Tri × Nat) := (((pcsOf w).take j).zipIdx).filterMap fun x => (ownsTurn ab w (w.length - 1 - x.2) x.1).map (·, w.length - 1 - x.2)
theorem ownN_succ {ab : Bool} {w : List Nat} {j : Nat} {p : Pc} (h : (pcsOf w)[j]? = some p) : ownN ab w (j + 1) = ownN ab w j ++ ((ownsTurn ab w (w.length - 1 - j) p).map (·, w.length - 1 - j)).toList := by
  have hj : j < (pcsOf w).length := (List.getElem?_eq_some_iff.mp h).1
  unfold ownN
  rw [List.take_add_one, h, Option.toList_some, List.zipIdx_append, List.filterMap_append, List.length_take, Nat.min_eq_left (by omega)]
  congr 1
  show List.filterMap _ [(p, 0 + j)] = _
  rw [Nat.zero_add]
  rw [List.filterMap_cons, List.filterMap_nil]
  dsimp only
  cases ownsTurn ab w (w.length - 1 - j) p <;> rfl
theorem ownN_none {ab : Bool} {w : List Nat} {j : Nat} {p : Pc} (h : (pcsOf w)[j]? = some p) (hn : ownsTurn ab w (w.length - 1 - j) p = none) : ownN ab w (j + 1) = ownN ab w j := by
  rw [ownN_succ h, hn]; simp
theorem ownN_some {ab : Bool} {w : List Nat} {j : Nat} {p : Pc} {t : Tri} (h : (pcsOf w)[j]? = some p) (hn : ownsTurn ab w (w.length - 1 - j) p = some t) : ownN ab w (j + 1) = ownN ab w j ++ [(t, w.length - 1 - j)] := by
  rw [ownN_succ h, hn]; rfl
noncomputable def goodW (ks : List Nat) (due : List Tri) (ab : Bool) : Bool := (pcsOf (wordOf ab ks)).length == (wordOf ab ks).length && ((pcsOf (wordOf ab ks)).zipIdx).all fun x => turnOk (wordOf ab ks) due ((wordOf ab ks).length - 1 - x.2) x.1
noncomputable def nodupb : List Nat → Bool
  | [] => true
  | x :: r => !r.contains x && nodupb r
noncomputable def repsOf (ks : List Nat) : List Tri := repsN ks (ks.length / 2)
noncomputable def ownAll (ab : Bool) (ks : List Nat) : List (Tri × Nat) := ownN ab (wordOf ab ks) (wordOf ab ks).length
noncomputable def good (ks : List Nat) : Bool :=
  goodW ks (repsOf ks) true && goodW ks (repsOf ks) false && ((repsOf ks).all fun t => ((ownAll true ks ++ ownAll false ks).map (·.1)).contains t) && nodupb ((ownAll true ks ++ ownAll false ks).map (·.2))
theorem goodW_at {ks : List Nat} {due : List Tri} {ab : Bool} (h : goodW ks due ab = true) {j : Nat} {p : Pc} (hp : (pcsOf (wordOf ab ks))[j]? = some p) : j < (wordOf ab ks).length ∧ turnOk (wordOf ab ks) due ((wordOf ab ks).length - 1 - j) p = true := by
  unfold goodW at h
  rw [Bool.and_eq_true, beq_iff_eq, List.all_eq_true] at h
  have hj : j < (pcsOf (wordOf ab ks)).length := (List.getElem?_eq_some_iff.mp hp).1
  refine ⟨by omega, ?_⟩
  exact h.2 (p, j) (List.mem_iff_getElem?.mpr ⟨j, by rw [List.getElem?_zipIdx, hp]; simp⟩)
theorem goodW_len {ks : List Nat} {due : List Tri} {ab : Bool} (h : goodW ks due ab = true) : (pcsOf (wordOf ab ks)).length = (wordOf ab ks).length := by
  unfold goodW at h
  rw [Bool.and_eq_true, beq_iff_eq] at h
  exact h.1
structure TurnFacts (w : List Nat) (due : List Tri) (place : Nat) (p : Pc) : Prop where
  fits : place + szOf p ≤ w.length
  pos : 1 ≤ szOf p
  least : 1 < szOf p → w.drop (place + p.1.length) = minOf ((List.range (szOf p - 1)).map fun j => w.drop (place + 1 + j))
  told : 2 * szOf p ≤ endOf w place (szOf p) - startOf w place (szOf p) → (startOf w place (szOf p), endOf w place (szOf p), szOf p) ∈ due
theorem turn_facts {w : List Nat} {due : List Tri} {place : Nat} {p : Pc} (h : turnOk w due place p = true) : TurnFacts w due place p := by
  unfold turnOk minOk at h
  simp only [Bool.and_eq_true, Bool.or_eq_true, Bool.not_eq_true', decide_eq_true_eq, decide_eq_false_iff_not, beq_iff_eq, List.contains_iff_mem] at h
  obtain ⟨⟨⟨h1, h2⟩, h3⟩, h4⟩ := h
  exact ⟨h1, h2, fun hh => h3.resolve_left (fun hn => hn hh), fun hh => h4.resolve_left (fun hn => hn hh)⟩
noncomputable def letS (ab : Bool) : Str := if ab then Str.mk #[97, 98, 99] else Str.mk #[99, 98, 97]
theorem letS_eq (ab : Bool) : (letS ab == Str.ofString "abc") = ab := by cases ab <;> decide +kernel
theorem abc_is : Str.ofString "abc" = letS true := by decide +kernel
theorem cba_is : Str.ofString "cba" = letS false := by decide +kernel
theorem word_len (ab : Bool) (ks : List Nat) : (wordOf ab ks).length = ks.length := List.length_map ..
theorem read_ab (dp un : Nat) (gd : Option (List Code)) (cn : Str) (cs : Scope) (a : Addr) (ccd : Value) (cl : List (Str × Addr)) (outer : List Env) (A₀ : Around) (base h₀ : Heap) (L : Addr) (m : Str → Option Value) (news : List (Addr × Obj)) (s : Shared) (x : Str) (ab : Bool) (ks : List Nat) (t u : Tok) (Q E : Value → Shared → Prop)
   (B : Below A₀ base outer h₀) (F : Fr h₀ L s.heap m) (X : (Kf w.params).In h₀) (N : News h₀ L s.heap news) (T : Top vw (looseW vw lz) mean mg mb h₀) (hk : cs.kind = .function) (hd : dp + 2 < recursionLimit) (hu : un + 16 < cLine) (hx : x.cps.size ≤ 64)
   (h1 : readOf 97 98 99 x.cps.toList = wordOf true ks) (h2 : readOf 99 98 97 x.cps.toList = wordOf false ks)
   (hret : ∀ (t : Tok) (h' : Heap) (tk' : Nat), Fr h₀ L h' m → News h₀ L h' news → Q (.str ⟨(wordOf ab ks).toArray⟩ t) { s with heap := h', toks := tk' }) :
   wpAny (model pw w) (ktrTop dp un gd cn cs L a ccd cl outer) (call (.ref 180) [.str x t, .str (letS ab) u]) Q E s := by
  cases ab with
  | true => exact read_spec _ _ _ _ _ _ _ _ _ _ _ _ _ _ _ _ _ 97 98 99 _ _ _ _ B F X N T hk hd hu hx fun t h' tk' F' N' => by rw [h1]; exact hret t h' tk' F' N'
  | false => exact read_spec _ _ _ _ _ _ _ _ _ _ _ _ _ _ _ _ _ 99 98 97 _ _ _ _ B F X N T hk hd hu hx fun t h' tk' F' N' => by rw [h2]; exact hret t h' tk' F' N'
end Mine
end SecLawPure
set_option maxRecDepth 100000
set_option maxHeartbeats 8000000
set_option Elab.async false
set_option linter.unusedVariables false
set_option linter.unusedSimpArgs false
open PySem PySem.W PySem.Calls PyProof.Rows PySem.Spec
noncomputable section SecGoodKs
namespace Mine
variable {w : World} {mean : ExcName → Option Value} {mg mb : Str → Option Value}
theorem regGoodKs : Kf = Kf ∧ PySem.Challenge.rw_xn0003_01 = PySem.Challenge.rw_xn0003_01 := by
  k_fill
  try (walk1; fail "looked")
  exact ⟨rfl, rfl⟩
noncomputable def words : Nat → List (List Nat)
  | 0 => [[]]
  | n + 1 => (words n).flatMap fun l => [0 :: l, 1 :: l, 2 :: l]
theorem mem_words : ∀ {t : List Nat}, (∀ x ∈ t, x < 3) → t ∈ words t.length
  | [], _ => .head _
  | x :: t, h => by
    have h1 := mem_words (t := t) fun y hy => h y (.tail _ hy)
    have h2 : x < 3 := h x (.head _)
    refine List.mem_flatMap.mpr ⟨t, h1, ?_⟩
    have h3 : x = 0 ∨ x = 1 ∨ x = 2 := by omega
    rcases h3 with rfl | rfl | rfl
    · exact .head _
    · exact .tail _ (.head _)
    · exact .tail _ (.tail _ (.head _))
noncomputable def behind8 (l : List Nat) : List Nat := 2 :: 0 :: 1 :: 0 :: 0 :: 1 :: 0 :: 1 :: l
theorem g0 : (words 0).all (fun t => good (behind8 t)) = true := by decide +kernel
theorem g1 : (words 1).all (fun t => good (behind8 t)) = true := by decide +kernel
theorem g2 : (words 2).all (fun t => good (behind8 t)) = true := by decide +kernel
theorem g3 : (words 3).all (fun t => good (behind8 t)) = true := by decide +kernel
theorem g4_0 : (words 3).all (fun t => good (behind8 (0 :: t))) = true := by decide +kernel
theorem g4_1 : (words 3).all (fun t => good (behind8 (1 :: t))) = true := by decide +kernel
theorem g4_2 : (words 3).all (fun t => good (behind8 (2 :: t))) = true := by decide +kernel
theorem g5_00 : (words 3).all (fun t => good (behind8 (0 :: 0 :: t))) = true := by decide +kernel
theorem g5_01 : (words 3).all (fun t => good (behind8 (0 :: 1 :: t))) = true := by decide +kernel
theorem g5_02 : (words 3).all (fun t => good (behind8 (0 :: 2 :: t))) = true := by decide +kernel
theorem g5_10 : (words 3).all (fun t => good (behind8 (1 :: 0 :: t))) = true := by decide +kernel
theorem g5_11 : (words 3).all (fun t => good (behind8 (1 :: 1 :: t))) = true := by decide +kernel
theorem g5_12 : (words 3).all (fun t => good (behind8 (1 :: 2 :: t))) = true := by decide +kernel
theorem g5_20 : (words 3).all (fun t => good (behind8 (2 :: 0 :: t))) = true := by decide +kernel
theorem g5_21 : (words 3).all (fun t => good (behind8 (2 :: 1 :: t))) = true := by decide +kernel
theorem g5_22 : (words 3).all (fun t => good (behind8 (2 :: 2 :: t))) = true := by decide +kernel
theorem all_at {t : List Nat} {n : Nat} {f : List Nat → Bool} (h : (words n).all f = true) (hn : t.length = n) (ht : ∀ x ∈ t, x < 3) : f t = true := by
  subst hn
  exact List.all_eq_true.mp h t (mem_words ht)
theorem g0a {t : List Nat} (hn : t.length = 0) (ht : ∀ x ∈ t, x < 3) : good (behind8 t) = true := by
  have h := all_at (f := fun t => good (behind8 t)) g0 hn ht
  exact h
theorem g1a {t : List Nat} (hn : t.length = 1) (ht : ∀ x ∈ t, x < 3) : good (behind8 t) = true := by
  have h := all_at (f := fun t => good (behind8 t)) g1 hn ht
  exact h
theorem g2a {t : List Nat} (hn : t.length = 2) (ht : ∀ x ∈ t, x < 3) : good (behind8 t) = true := by
  have h := all_at (f := fun t => good (behind8 t)) g2 hn ht
  exact h
theorem g3a {t : List Nat} (hn : t.length = 3) (ht : ∀ x ∈ t, x < 3) : good (behind8 t) = true := by
  have h := all_at (f := fun t => good (behind8 t)) g3 hn ht
  exact h
theorem g4_0a {t : List Nat} (hn : t.length = 3) (ht : ∀ x ∈ t, x < 3) : good (behind8 (0 :: t)) = true := by
  have h := all_at (f := fun t => good (behind8 (0 :: t))) g4_0 hn ht
  exact h
theorem g4_1a {t : List Nat} (hn : t.length = 3) (ht : ∀ x ∈ t, x < 3) : good (behind8 (1 :: t)) = true := by
  have h := all_at (f := fun t => good (behind8 (1 :: t))) g4_1 hn ht
  exact h
theorem g4_2a {t : List Nat} (hn : t.length = 3) (ht : ∀ x ∈ t, x < 3) : good (behind8 (2 :: t)) = true := by
  have h := all_at (f := fun t => good (behind8 (2 :: t))) g4_2 hn ht
  exact h
theorem g5_00a {t : List Nat} (hn : t.length = 3) (ht : ∀ x ∈ t, x < 3) : good (behind8 (0 :: 0 :: t)) = true := by
  have h := all_at (f := fun t => good (behind8 (0 :: 0 :: t))) g5_00 hn ht
  exact h
theorem g5_01a {t : List Nat} (hn : t.length = 3) (ht : ∀ x ∈ t, x < 3) : good (behind8 (0 :: 1 :: t)) = true := by
  have h := all_at (f := fun t => good (behind8 (0 :: 1 :: t))) g5_01 hn ht
  exact h
theorem g5_02a {t : List Nat} (hn : t.length = 3) (ht : ∀ x ∈ t, x < 3) : good (behind8 (0 :: 2 :: t)) = true := by
  have h := all_at (f := fun t => good (behind8 (0 :: 2 :: t))) g5_02 hn ht
  exact h
theorem g5_10a {t : List Nat} (hn : t.length = 3) (ht : ∀ x ∈ t, x < 3) : good (behind8 (1 :: 0 :: t)) = true := by
  have h := all_at (f := fun t => good (behind8 (1 :: 0 :: t))) g5_10 hn ht
  exact h
theorem g5_11a {t : List Nat} (hn : t.length = 3) (ht : ∀ x ∈ t, x < 3) : good (behind8 (1 :: 1 :: t)) = true := by
  have h := all_at (f := fun t => good (behind8 (1 :: 1 :: t))) g5_11 hn ht
  exact h
theorem g5_12a {t : List Nat} (hn : t.length = 3) (ht : ∀ x ∈ t, x < 3) : good (behind8 (1 :: 2 :: t)) = true := by
  have h := all_at (f := fun t => good (behind8 (1 :: 2 :: t))) g5_12 hn ht
  exact h
theorem g5_20a {t : List Nat} (hn : t.length = 3) (ht : ∀ x ∈ t, x < 3) : good (behind8 (2 :: 0 :: t)) = true := by
  have h := all_at (f := fun t => good (behind8 (2 :: 0 :: t))) g5_20 hn ht
  exact h
theorem g5_21a {t : List Nat} (hn : t.length = 3) (ht : ∀ x ∈ t, x < 3) : good (behind8 (2 :: 1 :: t)) = true := by
  have h := all_at (f := fun t => good (behind8 (2 :: 1 :: t))) g5_21 hn ht
  exact h
theorem g5_22a {t : List Nat} (hn : t.length = 3) (ht : ∀ x ∈ t, x < 3) : good (behind8 (2 :: 2 :: t)) = true := by
  have h := all_at (f := fun t => good (behind8 (2 :: 2 :: t))) g5_22 hn ht
  exact h
theorem len_succ {t : List Nat} {n : Nat} (h : t.length = n + 1) : ∃ a r, t = a :: r ∧ r.length = n := by
  cases t with
  | nil => exact absurd h (by simp)
  | cons a r => exact ⟨a, r, rfl, by simpa using h⟩
theorem lt3 {a : Nat} (h : a < 3) : a = 0 ∨ a = 1 ∨ a = 2 := by omega
theorem good_4 {t : List Nat} (hn : t.length = 4) (ht : ∀ x ∈ t, x < 3) : good (behind8 t) = true := by
  obtain ⟨a, r, rfl, hr⟩ := len_succ hn
  have h3 := lt3 (ht a (.head _))
  have hx : ∀ x ∈ r, x < 3 := fun x hx => ht x (.tail _ hx)
  rcases h3 with rfl | rfl | rfl
  · exact g4_0a hr hx
  · exact g4_1a hr hx
  · exact g4_2a hr hx
theorem good_5 {t : List Nat} (hn : t.length = 5) (ht : ∀ x ∈ t, x < 3) : good (behind8 t) = true := by
  obtain ⟨a, r, rfl, hr⟩ := len_succ hn
  have h3 := lt3 (ht a (.head _))
  have hx : ∀ x ∈ r, x < 3 := fun x hx => ht x (.tail _ hx)
  obtain ⟨b, q, rfl, hq⟩ := len_succ hr
  have h4 := lt3 (hx b (.head _))
  have hy : ∀ x ∈ q, x < 3 := fun x hy => hx x (.tail _ hy)
  rcases h3 with rfl | rfl | rfl <;> rcases h4 with rfl | rfl | rfl
  · exact g5_00a hq hy
  · exact g5_01a hq hy
  · exact g5_02a hq hy
  · exact g5_10a hq hy
  · exact g5_11a hq hy
  · exact g5_12a hq hy
  · exact g5_20a hq hy
  · exact g5_21a hq hy
  · exact g5_22a hq hy
theorem good_behind {t : List Nat} (hn : t.length ≤ 5) (ht : ∀ x ∈ t, x < 3) : good (behind8 t) = true := by
  have h : t.length = 0 ∨ t.length = 1 ∨ t.length = 2 ∨ t.length = 3 ∨ t.length = 4 ∨ t.length = 5 := by omega
  rcases h with h | h | h | h | h | h
  · exact g0a h ht
  · exact g1a h ht
  · exact g2a h ht
  · exact g3a h ht
  · exact good_4 h ht
  · exact good_5 h ht
theorem ks_is (ns : List Int) : ksOf ns = behind8 ((ns.take 5).map kindN) := by
  unfold ksOf
  rw [List.map_append]
  rfl
theorem good_ks (ns : List Int) : good (ksOf ns) = true := by
  rw [ks_is]
  refine good_behind ?_ fun x hx => ?_
  · rw [List.length_map, List.length_take]; omega
  · obtain ⟨y, _, rfl⟩ := List.mem_map.mp hx
    have h := kind_lo y
    have h' : 0 ≤ kindI y ∧ kindI y < 3 := h
    show (kindI y).toNat < 3
    omega
end Mine
end SecGoodKs
set_option maxRecDepth 100000
set_option maxHeartbeats 8000000
set_option Elab.async false
set_option linter.unusedVariables false
set_option linter.unusedSimpArgs false
open PySem PySem.W PySem.Calls PyProof.Rows PySem.Spec
noncomputable section SecLawHead
namespace Mine
variable {w : World} {mean : ExcName → Option Value} {mg mb : Str → Option Value}
theorem regLawHead : Kf = Kf ∧ PySem.Challenge.rw_xn0003_01 = PySem.Challenge.rw_xn0003_01 := by
  k_fill
  try (walk1; fail "looked")
  exact ⟨rfl, rfl⟩
local macro_rules | `(tactic| walk_at "call ref") => `(tactic| (k_here; refine Stop.go ?_))
local macro_rules | `(tactic| walk_at "exec For") => `(tactic| (k_here; (refine For_T ?_ (fun _ => rfl))))
local macro_rules | `(tactic| walk_at "exec For Name List cons nil") => `(tactic| (k_here; (refine For_T ?_ (fun _ => rfl))))
local macro_rules | `(tactic| walk_at "exec For Name Name cons nil") => `(tactic| (k_here; (refine For_T ?_ (fun _ => rfl))))
local macro_rules | `(tactic| walk_at "pyIter ref") => `(tactic| (k_here; refine Stop.go ?_))
local macro_rules | `(tactic| walk_at "pyIter str") => `(tactic| (k_here; refine Stop.go ?_))
local macro_rules | `(tactic| walk_at "call ref") => `(tactic| (k_here; k_dflt (refine' typed_spec2 _ _ _ _ _ _ _ _ _ _ _ _ _ _ _ _ _ _ _ _ _ ?b ?f ?x ?n ?t ?k ?d ?u ?l ?i ?z ?_; (case b => k_asm); (case f => k_asm); (case x => k_asm); (case n => k_asm); (case t => k_asm); (case k => first | exact rfl | assumption); (case d => ktr_room); (case u => ktr_units); (case l => k_asm); (case i => k_asm); (case z => omega)); intro aT aK vk nk y9 t9 h9 tk9 hy9 hr1 hr2 hK9 lt1 lt2 F9 N9; (try dsimp only)))
local macro_rules | `(tactic| walk_at "call ref") => `(tactic| (k_here; k_dflt (refine' reps_spec _ _ _ _ _ _ _ _ _ _ _ _ _ _ _ _ _ _ _ _ _ _ ?b ?f ?x ?n ?t ?k ?d ?u ?l ?i ?z ?_; (case b => k_asm); (case f => k_asm); (case x => k_asm); (case n => k_asm); (case t => k_asm); (case k => first | exact rfl | assumption); (case d => ktr_room); (case u => ktr_units); (case l => first | k_memK | kst_mem); (case i => k_asm); (case z => exact Nat.le_trans (ks_len _) (by decide))); intro aT vt nt tl h9 tk9 lt1 hoff9 hD9 F9 N9; (try dsimp only)))
local macro_rules | `(tactic| walk_at "call ref") => `(tactic| (k_here; k_dflt (refine' read_ab _ _ _ _ _ _ _ _ _ _ _ _ _ _ _ _ _ _ _ _ _ _ _ ?b ?f ?x ?n ?t ?k ?d ?u ?l ?i ?z ?_; (case b => k_asm); (case f => k_asm); (case x => k_asm); (case n => k_asm); (case t => k_asm); (case k => first | exact rfl | assumption); (case d => ktr_room); (case u => ktr_units); (case l => assumption); (case i => assumption); (case z => assumption)); intro t9 h9 tk9 F9 N9; (try dsimp only)))
theorem pieces_w (dp un : Nat) (gd : Option (List Code)) (cn : Str) (cs : Scope) (a : Addr) (ccd : Value) (cl : List (Str × Addr)) (outer : List Env) (A₀ : Around) (base h₀ : Heap) (L : Addr) (m : Str → Option Value) (news : List (Addr × Obj)) (s : Shared) (x : List Nat) (t : Tok) (Q E : Value → Shared → Prop)
   (B : Below A₀ base outer h₀) (F : Fr h₀ L s.heap m) (X : (Kf w.params).In h₀) (N : News h₀ L s.heap news) (T : Top vw (looseW vw lz) mean mg mb h₀) (hk : cs.kind = .function) (hd : dp + 5 < recursionLimit) (hu : un + 300 < cLine) (hx : x.length ≤ 60)
   (hret : ∀ (aP : Addr) (vp : List Value) (np : Nat) (tl : List (Addr × Obj)) (h' : Heap) (tk' : Nat), (∀ q ∈ news, ∀ p ∈ (aP, listOf vp.toArray np) :: tl, q.1 < p.1) → OwnOff tl [aP] → DatAll tl vp ((pcsOf x).map pcD) → Fr h₀ L h' m → News h₀ L h' ((aP, listOf vp.toArray np) :: (tl ++ news)) → Q (.ref aP) { s with heap := h', toks := tk' }) :
   wpAny (model pw w) (ktrTop dp un gd cn cs L a ccd cl outer) (call (.ref 187) [.str ⟨x.toArray⟩ t]) Q E s := by
  refine pieces_spec _ _ _ _ _ _ _ _ _ _ _ _ _ _ _ _ _ _ _ _ B F X N T hk hd hu ?_ ?_
  · show (List.toArray x).size ≤ _
    rw [List.size_toArray]; exact hx
  · intro aP vp np tl h' tk' g1 g2 g3
    have e : (stN (List.toArray x).toList.reverse (List.toArray x).size).2 = pcsOf x := by rw [List.toList_toArray, List.size_toArray]; rfl
    exact hret aP vp np tl h' tk' g1 g2 (e ▸ g3)
theorem wl (ab : Bool) (ns : List Int) : (wordOf ab (ksOf ns)).length ≤ 60 := by rw [word_len]; exact Nat.le_trans (ks_len _) (by decide)
local macro_rules | `(tactic| walk_at "call ref") => `(tactic| (k_here; k_dflt (refine' pieces_w _ _ _ _ _ _ _ _ _ _ _ _ _ _ _ _ _ _ _ _ ?b ?f ?x ?n ?t ?k ?d ?u ?l ?_; (case b => k_asm); (case f => k_asm); (case x => k_asm); (case n => k_asm); (case t => k_asm); (case k => first | exact rfl | assumption); (case d => ktr_room); (case u => ktr_units); (case l => exact wl _ _)); intro aP vp np tlp h9 tk9 lt1 hoff9 hD9 F9 N9; (try dsimp only)))
section
variable {prog : Program} {w : World} {A : Around} {E : Value → Shared → Prop} {s : Shared} {Q : Value → Shared → Prop}
theorem len_w {l : List Nat} {t : Tok} (hz : l.length ≤ 64) (h : Q (.int (l.length : Int) (s.toks + 1)) { s with toks := s.toks + 1 + 1 }) : wpAny (model prog w) A (call (.builtin "len") [.str ⟨l.toArray⟩ t]) Q E s := by
  have e : (Str.mk l.toArray).length = l.length := List.size_toArray ..
  refine SBL.len (by rw [e]; omega) ?_
  rw [e]
  exact h
end
local macro_rules | `(tactic| walk_at "call builtin:len") => `(tactic| (k_here; (with_reducible show wpAny _ _ (call (Value.builtin "len") [Value.str _ _]) _ _ _); refine len_w ?_ ?_; (first | assumption | ((try simp only [List.length_append, List.length_cons, List.length_nil]); omega))))
/-- the outer loop's state -/
noncomputable def outJ (ab₀ : Nat → List (Tri × Nat)) (q0 : Addr × Obj) (c aD lo lw : Addr) (oD : Obj) (nw : List (Addr × Obj)) (y : Str) (i : Nat) (m : Str → Option Value) (nx : List (Addr × Obj)) : Prop :=
  m (Str.ofString "due") = some (.ref aD) ∧ m (Str.ofString "owned") = some (.ref lo) ∧ m (Str.ofString "owners") = some (.ref lw) ∧ ∃ (t : Tok) (oW : Obj) (vW : Option Value) (vo vs : List Value) (no ns : Nat) (R tl : List (Addr × Obj)),
    m (Str.ofString "typed") = some (.str y t) ∧ oW.data = .cell vW ∧ nx = q0 :: (c, oW) :: (lw, listOf vs.toArray ns) :: (lo, listOf vo.toArray no) :: R ∧ OwnOff R [q0.1, c, lw, lo] ∧ (aD, oD) ∈ R ∧ R = tl ++ nw ∧ DatAll tl vo ((ab₀ i).map fun x => triD x.1) ∧ IntsAre vs ((ab₀ i).map fun x => (x.2 : Int)) ∧ @LT.lt Nat _ c lo ∧ @LT.lt Nat _ lo lw ∧ @LT.lt Nat _ lw q0.1
noncomputable def abAt (ks : List Nat) (i : Nat) : List (Tri × Nat) := if i = 0 then [] else if i = 1 then ownAll true ks else ownAll true ks ++ ownAll false ks
section
variable {prog : Program} {w : World} {A : Around} {E : Value → Shared → Prop} {s : Shared} {env : Env} {h₀ : Heap} {L : Addr} {target : Expr} {body : List Stmt} {Q : Flow → Shared → Prop}
theorem of_ne {a b : Addr} (h : @LT.lt Nat _ a b) : a ≠ b := fun e => Nat.lt_irrefl _ (e ▸ h)
theorem outer_enter {l lw lo aD aT aK c : Addr} {vs vd : List Value} {nn nd : Nat} {oT oK oW : Obj} {tl : List (Addr × Obj)} {m₀ : Str → Option Value} {ks : List Nat} {y : Str} {t : Tok} {vW : Option Value}
    (hh : A.handled = none) (F : Fr h₀ L s.heap m₀) (N : News h₀ L s.heap ((l, listOf vs.toArray nn) :: (lw, listOf #[] 0) :: (lo, listOf #[] 0) :: (aD, listOf vd.toArray nd) :: (tl ++ [(aT, oT), (aK, oK), (c, oW)])))
    (hW : oW.data = .cell vW) (l1 : aD < lo ∧ AllLt lo (tl ++ [(aT, oT), (aK, oK), (c, oW)])) (l2 : lo < lw ∧ aD < lw ∧ AllLt lw (tl ++ [(aT, oT), (aK, oK), (c, oW)])) (l3 : lw < l ∧ lo < l ∧ aD < l ∧ AllLt l (tl ++ [(aT, oT), (aK, oK), (c, oW)]))
    (lt1 : aK < aT) (lt2 : ∀ p ∈ [(c, oW)], p.1 < aK) (lt3 : ∀ q ∈ [(aT, oT), (aK, oK), (c, oW)], ∀ p ∈ (aD, listOf vd.toArray nd) :: tl, q.1 < p.1)
    (h1 : m₀ (Str.ofString "due") = some (.ref aD)) (h2 : m₀ (Str.ofString "owned") = some (.ref lo)) (h3 : m₀ (Str.ofString "owners") = some (.ref lw)) (h4 : m₀ (Str.ofString "typed") = some (.str y t)) (hDue : DatAll tl vd ((repsN ks (ks.length / 2)).map triD))
    (turn : ∀ i v m₁ nx h tk I o, vs[i]? = some v → outJ (abAt ks) (l, listOf vs.toArray nn) c aD lo lw (listOf vd.toArray nd) ((aD, listOf vd.toArray nd) :: (tl ++ [(aT, oT), (aK, oK)])) y i m₁ nx → (∀ p ∈ nx, p.1 ≠ I) → Fr h₀ L h m₁ → News h₀ L h ((I, o) :: nx) →
      wpAny (model prog w) A (assign target env v) (fun _ s₂ => wpAny (model prog w) A (execs body env) (TurnT h₀ L (outJ (abAt ks) (l, listOf vs.toArray nn) c aD lo lw (listOf vd.toArray nd) ((aD, listOf vd.toArray nd) :: (tl ++ [(aT, oT), (aK, oK)])) y (i + 1)) (I, o) { s with heap := h, toks := tk } Q) E s₂) E { s with heap := h, toks := tk })
    (done : ∀ m₁ nx h tk, outJ (abAt ks) (l, listOf vs.toArray nn) c aD lo lw (listOf vd.toArray nd) ((aD, listOf vd.toArray nd) :: (tl ++ [(aT, oT), (aK, oK)])) y vs.length m₁ nx → Fr h₀ L h m₁ → News h₀ L h nx → Q .next { s with heap := h, toks := tk })
    (hE : PassesOwn (model prog w) A env E) :
    wpAny (model prog w) A (pyIter (.ref l)) (fun it s₂ => LoopT prog w A env target body Q E it s₂) E s := by
  have a1 : ∀ {D : Addr}, AllLt D (tl ++ [(aT, oT), (aK, oK), (c, oW)]) → @LT.lt Nat _ c D := fun h => ktn_ltOf h (c, oW) (List.mem_append.mpr (.inr (.tail _ (.tail _ (.head _)))))
  have a2 : ∀ {D : Addr}, AllLt D (tl ++ [(aT, oT), (aK, oK), (c, oW)]) → ∀ p ∈ tl ++ [(aT, oT), (aK, oK)], @LT.lt Nat _ p.1 D := fun h p hp => ktn_ltOf h p (by
    rcases List.mem_append.mp hp with hp | hp
    · exact List.mem_append.mpr (.inl hp)
    · rcases List.mem_cons.mp hp with rfl | hp
      · exact List.mem_append.mpr (.inr (.head _))
      · rw [List.mem_singleton.mp hp]
        exact List.mem_append.mpr (.inr (.tail _ (.head _))))
  have a3 : ∀ p ∈ (aD, listOf vd.toArray nd) :: (tl ++ [(aT, oT), (aK, oK)]), @LT.lt Nat _ c p.1 := fun p hp => by
    have b1 : @LT.lt Nat _ c aK := lt2 _ (.head _)
    have b2 : @LT.lt Nat _ aK aT := lt1
    rcases List.mem_cons.mp hp with rfl | hp
    · exact lt3 (c, oW) (.tail _ (.tail _ (.head _))) _ (.head _)
    · rcases List.mem_append.mp hp with hp | hp
      · exact lt3 (c, oW) (.tail _ (.tail _ (.head _))) _ (.tail _ hp)
      · rcases List.mem_cons.mp hp with rfl | hp
        · exact Nat.lt_trans b1 b2
        · rw [List.mem_singleton.mp hp]; exact b1
  refine iter_listT (nn := nn) (vs := vs) (outJ (abAt ks) (l, listOf vs.toArray nn) c aD lo lw (listOf vd.toArray nd) ((aD, listOf vd.toArray nd) :: (tl ++ [(aT, oT), (aK, oK)])) y) hh (.head _) (fun i m nx hJ => by obtain ⟨-, -, -, t, oW, vW, vo, vs, no, ns, R, tl, -, -, rfl, -⟩ := hJ; exact .head _) F
    (news := (l, listOf vs.toArray nn) :: (c, oW) :: (lw, listOf #[] 0) :: (lo, listOf #[] 0) :: (aD, listOf vd.toArray nd) :: (tl ++ [(aT, oT), (aK, oK)])) (fun p hp => N p ?_) ⟨h1, h2, h3, t, oW, vW, [], [], 0, 0, _, [], h4, hW, rfl, fun p hp b hb => ?_, .head _, rfl, ?_, ?_, a1 l1.2, l2.1, l3.1⟩ turn done hE
  · simp only [List.mem_cons, List.mem_append, List.not_mem_nil, or_false] at hp ⊢
    rcases hp with h | h | h | h | h | h | h | h
    · exact .inl h
    · exact .inr (.inr (.inr (.inr (.inr (.inr (.inr h))))))
    · exact .inr (.inl h)
    · exact .inr (.inr (.inl h))
    · exact .inr (.inr (.inr (.inl h)))
    · exact .inr (.inr (.inr (.inr (.inl h))))
    · exact .inr (.inr (.inr (.inr (.inr (.inl h)))))
    · exact .inr (.inr (.inr (.inr (.inr (.inr (.inl h))))))
  · have b0 := a3 p hp
    have b1 : @LT.lt Nat _ p.1 l ∧ @LT.lt Nat _ p.1 lw ∧ @LT.lt Nat _ p.1 lo := by
      rcases List.mem_cons.mp hp with rfl | hp
      · exact ⟨l3.2.2.1, l2.2.1, l1.1⟩
      · exact ⟨a2 l3.2.2.2 p hp, a2 l2.2.2 p hp, a2 l1.2 p hp⟩
    simp only [List.mem_cons, List.not_mem_nil, or_false] at hb
    rcases hb with rfl | rfl | rfl | rfl
    · exact of_ne b1.1
    · exact (of_ne b0).symm
    · exact of_ne b1.2.1
    · exact of_ne b1.2.2
  · exact .nil
  · exact .nil
end
theorem lett_at {i : Nat} {v : Value} {t u : Tok} (h : [Value.str (Str.ofString "abc") t, Value.str (Str.ofString "cba") u][i]? = some v) : ∃ ab tv, v = .str (letS ab) tv ∧ (i = 0 ∧ ab = true ∨ i = 1 ∧ ab = false) := by
  rw [abc_is, cba_is] at h
  match i, h with
  | 0, h => exact ⟨true, t, (Option.some.inj h).symm, .inl ⟨rfl, rfl⟩⟩
  | 1, h => exact ⟨false, u, (Option.some.inj h).symm, .inr ⟨rfl, rfl⟩⟩
/-- the inner loop's state -/
noncomputable def inJ (ab : Bool) (W : List Nat) (acc0 : List (Tri × Nat)) (q1 q2 q0 : Addr × Obj) (c : Addr) (oW : Obj) (aD lo lw : Addr) (oD : Obj) (tlp nw : List (Addr × Obj)) (y : Str) (j : Nat) (m : Str → Option Value) (nx : List (Addr × Obj)) : Prop :=
  m (Str.ofString "due") = some (.ref aD) ∧ m (Str.ofString "owned") = some (.ref lo) ∧ m (Str.ofString "owners") = some (.ref lw) ∧ ∃ (t tl0 tp : Tok) (vo vs : List Value) (no ns : Nat) (R tl : List (Addr × Obj)),
    m (Str.ofString "typed") = some (.str y t) ∧ m (Str.ofString "letters") = some (.str (letS ab) tl0) ∧ m (Str.ofString "place") = some (.int ((W.length : Int) - (j : Int)) tp) ∧
    nx = q1 :: q2 :: q0 :: (c, oW) :: (lw, listOf vs.toArray ns) :: (lo, listOf vo.toArray no) :: R ∧ OwnOff R [q1.1, q2.1, q0.1, c, lw, lo] ∧ (aD, oD) ∈ R ∧ (∀ p ∈ tlp, p ∈ R) ∧ R = tl ++ nw ∧
    DatAll tl vo ((acc0 ++ ownN ab W j).map fun x => triD x.1) ∧ IntsAre vs ((acc0 ++ ownN ab W j).map fun x => (x.2 : Int))
section
variable {prog : Program} {w : World} {A : Around} {E : Value → Shared → Prop} {s : Shared} {env : Env} {h₀ : Heap} {L : Addr} {target : Expr} {body : List Stmt} {Q : Flow → Shared → Prop}
theorem inner_enter {ab : Bool} {W : List Nat} {acc0 : List (Tri × Nat)} {aP c aD lo lw : Addr} {vp vs vo : List Value} {np ns no : Nat} {q2 q0 : Addr × Obj} {oW oD : Obj} {tlp R tl nw : List (Addr × Obj)} {m₀ : Str → Option Value} {y : Str} {t tl0 tp : Tok}
    (hh : A.handled = none) (F : Fr h₀ L s.heap m₀) (N : News h₀ L s.heap ((aP, listOf vp.toArray np) :: (tlp ++ (q2 :: q0 :: (c, oW) :: (lw, listOf vs.toArray ns) :: (lo, listOf vo.toArray no) :: R))))
    (lt : ∀ q ∈ q2 :: q0 :: (c, oW) :: (lw, listOf vs.toArray ns) :: (lo, listOf vo.toArray no) :: R, ∀ p ∈ (aP, listOf vp.toArray np) :: tlp, q.1 < p.1) (hoffP : OwnOff tlp [aP]) (hoff : OwnOff R [q2.1, q0.1, c, lw, lo]) (hdue : (aD, oD) ∈ R) (hR : R = tl ++ nw)
    (hDo : DatAll tl vo (acc0.map fun x => triD x.1)) (hIs : IntsAre vs (acc0.map fun x => (x.2 : Int)))
    (h1 : m₀ (Str.ofString "due") = some (.ref aD)) (h2 : m₀ (Str.ofString "owned") = some (.ref lo)) (h3 : m₀ (Str.ofString "owners") = some (.ref lw)) (h4 : m₀ (Str.ofString "typed") = some (.str y t)) (h5 : m₀ (Str.ofString "letters") = some (.str (letS ab) tl0)) (h6 : m₀ (Str.ofString "place") = some (.int (W.length : Int) tp))
    (turn : ∀ j v m₁ nx h tk I o, vp[j]? = some v → inJ ab W acc0 (aP, listOf vp.toArray np) q2 q0 c oW aD lo lw oD tlp nw y j m₁ nx → (∀ p ∈ nx, p.1 ≠ I) → Fr h₀ L h m₁ → News h₀ L h ((I, o) :: nx) →
      wpAny (model prog w) A (assign target env v) (fun _ s₂ => wpAny (model prog w) A (execs body env) (TurnT h₀ L (inJ ab W acc0 (aP, listOf vp.toArray np) q2 q0 c oW aD lo lw oD tlp nw y (j + 1)) (I, o) { s with heap := h, toks := tk } Q) E s₂) E { s with heap := h, toks := tk })
    (done : ∀ m₁ nx h tk, inJ ab W acc0 (aP, listOf vp.toArray np) q2 q0 c oW aD lo lw oD tlp nw y vp.length m₁ nx → Fr h₀ L h m₁ → News h₀ L h nx → Q .next { s with heap := h, toks := tk })
    (hE : PassesOwn (model prog w) A env E) :
    wpAny (model prog w) A (pyIter (.ref aP)) (fun it s₂ => LoopT prog w A env target body Q E it s₂) E s := by
  have own : ∀ q ∈ q2 :: q0 :: (c, oW) :: (lw, listOf vs.toArray ns) :: (lo, listOf vo.toArray no) :: R, ∀ p ∈ (aP, listOf vp.toArray np) :: tlp, @Ne Nat q.1 p.1 := fun q hq p hp => of_ne (lt q hq p hp)
  refine iter_listT (nn := np) (vs := vp) (inJ ab W acc0 (aP, listOf vp.toArray np) q2 q0 c oW aD lo lw oD tlp nw y) hh (.head _) (fun i m nx hJ => by obtain ⟨-, -, -, t, tl0, tp, vo, vs, no, ns, R, tl, -, -, -, rfl, -⟩ := hJ; exact .head _) F
    (news := (aP, listOf vp.toArray np) :: q2 :: q0 :: (c, oW) :: (lw, listOf vs.toArray ns) :: (lo, listOf vo.toArray no) :: (tlp ++ R)) (fun p hp => N p ?_) ⟨h1, h2, h3, t, tl0, tp, vo, vs, no, ns, tlp ++ R, tlp ++ tl, h4, h5, ?_, rfl, off_app (fun p hp b hb => ?_) (fun p hp b hb => ?_), List.mem_append.mpr (.inr hdue), fun p hp => List.mem_append.mpr (.inl hp), by rw [hR, List.append_assoc], ?_, ?_⟩ turn done hE
  · simp only [List.mem_cons, List.mem_append] at hp ⊢
    rcases hp with h | h | h | h | h | h | h | h
    · exact .inl h
    · exact .inr (.inr (.inl h))
    · exact .inr (.inr (.inr (.inl h)))
    · exact .inr (.inr (.inr (.inr (.inl h))))
    · exact .inr (.inr (.inr (.inr (.inr (.inl h)))))
    · exact .inr (.inr (.inr (.inr (.inr (.inr (.inl h))))))
    · exact .inr (.inl h)
    · exact .inr (.inr (.inr (.inr (.inr (.inr (.inr h))))))
  · rw [h6, show ((W.length : Int) - ((0 : Nat) : Int)) = (W.length : Int) by omega]
  · simp only [List.mem_cons, List.not_mem_nil, or_false] at hb
    rcases hb with rfl | rfl | rfl | rfl | rfl | rfl
    · exact hoffP p hp _ (.head _)
    · exact (own _ (.head _) p (.tail _ hp)).symm
    · exact (own _ (.tail _ (.head _)) p (.tail _ hp)).symm
    · exact (own _ (.tail _ (.tail _ (.head _))) p (.tail _ hp)).symm
    · exact (own _ (.tail _ (.tail _ (.tail _ (.head _)))) p (.tail _ hp)).symm
    · exact (own _ (.tail _ (.tail _ (.tail _ (.tail _ (.head _))))) p (.tail _ hp)).symm
  · rcases List.mem_cons.mp hb with rfl | hb
    · exact own p (.tail _ (.tail _ (.tail _ (.tail _ (.tail _ hp))))) _ (.head _)
    · exact hoff p hp b hb
  · rw [show ownN ab W 0 = [] from rfl, List.append_nil]
    exact DatAll.mono (fun p hp => List.mem_append.mpr (.inr hp)) hDo
  · rw [show ownN ab W 0 = [] from rfl, List.append_nil]
    exact hIs
end
theorem dat_at {news : List (Addr × Obj)} : ∀ {vs : List Value} {ds : List Dat}, DatAll news vs ds → ∀ {j : Nat} {v : Value}, vs[j]? = some v → ∃ d, ds[j]? = some d ∧ DatIn news v d
  | _, _, .cons h1 _, 0, _, h => ⟨_, rfl, (Option.some.inj h) ▸ h1⟩
  | _, _, .cons _ h2, j + 1, _, h => dat_at h2 (j := j) h
theorem good_w {ks : List Nat} (h : good ks = true) (ab : Bool) : goodW ks (repsOf ks) ab = true := by
  unfold good at h
  simp only [Bool.and_eq_true] at h
  cases ab
  · exact h.1.1.2
  · exact h.1.1.1
local macro_rules | `(tactic| walk_at "assign Tuple") => `(tactic| (k_here; (with_reducible show wpAny _ _ (assign (Expr.Tuple _ _ _) _ (Value.ref _)) _ _ _); k_dflt (refine' unpackN_ ?k1 ?k2 ?k3 ?k4 ?k5 ?k6 ?_; (case k1 => k_asm); (case k2 => k_asm); (case k3 => exact News.isTup (by k_asm) (by first | k_memK | kst_mem)); (case k4 => exact rfl); (case k5 => exact rfl); (case k6 => exact rfl)); intro h' F' N'))
local macro_rules | `(tactic| walk_at "binaryOp Add str str") => `(tactic| (k_here; refine add_l rfl rfl (by (try simp only [List.length_cons, List.length_nil]); omega) ?_; intro t9 k9))
noncomputable def nthS : List Stmt → Nat → Stmt
  | s :: _, 0 => s
  | _ :: r, n + 1 => nthS r n
  | [], _ => stm 0
noncomputable def forB : Stmt → List Stmt
  | .For _ _ b _ _ => b
  | _ => []
noncomputable def forT : Stmt → Expr
  | .For t _ _ _ _ => t
  | _ => .Constant .none 0 ⟨0, 0, 0, 0⟩
noncomputable def lawFor : Stmt := nthS (forB (nthS dL.body 4)) 2
local macro_rules | `(tactic| walk_at "eval ListComp") => `(tactic| (k_here; refine Stop.go ?_))
local macro_rules | `(tactic| walk_at "CompSrc") => `(tactic| (k_here; refine Stop.go ?_))
theorem cut_from {W : List Nat} {i : Int} (h0 : 0 ≤ i) (h2 : i ≤ W.length) : Txt.slice (Str.mk W.toArray) (some i) none = Str.mk (W.drop i.toNat).toArray := by
  have e : (Str.mk W.toArray).length = W.length := List.size_toArray ..
  rw [slice_from_eq (b := (W.length : Int)) h0 (by rw [e]; exact h2) (by rw [e])]
  show Str.mk (((List.toArray W).toList.drop _).take _).toArray = _
  rw [List.toList_toArray, List.take_of_length_le (by rw [List.length_drop]; omega)]
theorem cuts_are {W : List Nat} {place n : Nat} {a : Int} (ha : a = (place : Int) + 1) : ((rangeKs a n).map fun k => (Str.mk (W.drop k.toNat).toArray)).map (fun y => y.cps.toList) = (List.range n).map fun j => W.drop (place + 1 + j) := by
  unfold rangeKs
  rw [List.map_map, List.map_map]
  refine List.map_congr_left fun j _ => ?_
  show (List.toArray (W.drop (a + (j : Int)).toNat)).toList = _
  rw [List.toList_toArray, show (a + (j : Int)).toNat = place + 1 + j by omega]
local macro_rules | `(tactic| walk_at "call builtin:min") => `(tactic| (k_here; refine Stop.go ?_))
theorem triD_inj {a b : Tri} (h : triD a = triD b) : a = b := by
  unfold triD at h
  injection h with h
  injection h with h1 h
  injection h with h2 h
  injection h with h3 h
  injection h1 with h1
  injection h2 with h2
  injection h3 with h3
  obtain ⟨a1, a2, a3⟩ := a
  obtain ⟨b1, b2, b3⟩ := b
  dsimp only at h1 h2 h3
  rw [Int.ofNat_inj.mp h1, Int.ofNat_inj.mp h2, Int.ofNat_inj.mp h3]
theorem tri_ok (n : Nat) (t : Tri) : kqdOk (n + 1) (triD t) = true := by unfold triD; simp [kqdOk]
section
variable {prog : Program} {w : World} {A : Around} {E : Value → Shared → Prop} {s : Shared} {h₀ : Heap} {L aD : Addr} {news n₁ n₂ : List (Addr × Obj)} {vd : List Value} {nd : Nat} {ds : List Tri} {x : Value} {t : Tri} {Q : Value → Shared → Prop}
open Classical in
theorem tri_notIn (N : News h₀ L s.heap news) (hm : (aD, listOf vd.toArray nd) ∈ news) (hD : DatAll n₁ vd (ds.map triD)) (sa : ∀ p ∈ n₁, p ∈ news) (hx : DatIn n₂ x (triD t)) (sx : ∀ p ∈ n₂, p ∈ news) (hu : A.units + 64 < cLine) (h : Q (.bool (!ds.contains t)) s) :
    wpAny (model prog w) A (compareOp .NotIn x (.ref aD)) Q E s := by
  refine kqd_notIn N hm rfl rfl hD sa hx sx (fun d hd => ?_) (tri_ok _ _) hu ?_
  · obtain ⟨t', _, rfl⟩ := List.mem_map.mp hd
    exact tri_ok _ _
  · have e : (triD t ∈ ds.map triD) ↔ t ∈ ds := by
      constructor
      · intro hh
        obtain ⟨t', ht, he⟩ := List.mem_map.mp hh
        rw [← triD_inj he]; exact ht
      · exact fun hh => List.mem_map.mpr ⟨t, hh, rfl⟩
    by_cases hq : t ∈ ds
    · rw [decide_eq_true (e.mpr hq)]
      rw [List.contains_iff_mem.mpr hq] at h
      exact h
    · rw [decide_eq_false (fun z => hq (e.mp z))]
      have h2 : ds.contains t = false := by
        rw [Bool.eq_false_iff]; intro z; exact hq (List.contains_iff_mem.mp z)
      rw [h2] at h
      exact h
end
local macro_rules | `(tactic| walk_at "compareOp NotIn") => `(tactic| (k_here; refine Stop.go ?_))
local macro_rules | `(tactic| walk_at "compareOp NotIn ref ref") => `(tactic| (k_here; refine Stop.go ?_))
theorem owns_no1 {ab : Bool} {W : List Nat} {place : Nat} {p : Pc} (h : ¬ 2 * szOf p ≤ endOf W place (szOf p) - startOf W place (szOf p)) : ownsTurn ab W place p = none := if_neg fun hh => h hh.1
theorem owns_no2 {ab : Bool} {W : List Nat} {place : Nat} {p : Pc} (h : isLess ab W (endOf W place (szOf p)) (szOf p) = false) : ownsTurn ab W place p = none := if_neg fun hh => by rw [h] at hh; exact absurd hh.2.1 (by decide)
theorem owns_no3 {ab : Bool} {W : List Nat} {place : Nat} {p : Pc} (h : ¬ startOf W place (szOf p) < place) : ownsTurn ab W place p = none := if_neg fun hh => h hh.2.2
theorem owns_yes {ab : Bool} {W : List Nat} {place : Nat} {p : Pc} (h1 : 2 * szOf p ≤ endOf W place (szOf p) - startOf W place (szOf p)) (h2 : isLess ab W (endOf W place (szOf p)) (szOf p) = true) (h3 : startOf W place (szOf p) < place) : ownsTurn ab W place p = some (startOf W place (szOf p), endOf W place (szOf p), szOf p) := if_pos ⟨h1, h2, h3⟩
theorem less_end {ab : Bool} {W : List Nat} {e z : Nat} (h : e = W.length) : isLess ab W e z = ab := if_pos h
theorem less_in {ab : Bool} {W : List Nat} {e z : Nat} (h : e ≠ W.length) : isLess ab W e z = ltb [W.getD e 0] [W.getD (e - z) 0] := if_neg h
theorem inn_same {ab : Bool} {W : List Nat} {acc0 : List (Tri × Nat)} {q q1 q2 q0 : Addr × Obj} {c aD lo lw : Addr} {oW oD : Obj} {tlp nw R tl all : List (Addr × Obj)} {y : Str} {j no ns : Nat} {vo vs : List Value} {t tl0 tp : Tok} {h₀ h' : Heap} {L : Addr} {m' : Str → Option Value} {s₁ : Shared} {tk' : Nat} {Q : Flow → Shared → Prop}
    (F : Fr h₀ L h' m') (N : News h₀ L h' all) (hall : ∀ p ∈ q :: q1 :: q2 :: q0 :: (c, oW) :: (lw, listOf vs.toArray ns) :: (lo, listOf vo.toArray no) :: R, p ∈ all)
    (hne : ∀ p ∈ q1 :: q2 :: q0 :: (c, oW) :: (lw, listOf vs.toArray ns) :: (lo, listOf vo.toArray no) :: R, p.1 ≠ q.1)
    (h1 : m' (Str.ofString "due") = some (.ref aD)) (h2 : m' (Str.ofString "owned") = some (.ref lo)) (h3 : m' (Str.ofString "owners") = some (.ref lw)) (h4 : m' (Str.ofString "typed") = some (.str y t)) (h5 : m' (Str.ofString "letters") = some (.str (letS ab) tl0)) (h6 : m' (Str.ofString "place") = some (.int ((W.length : Int) - (j : Int) - 1) tp))
    (hoff : OwnOff R [q1.1, q2.1, q0.1, c, lw, lo]) (hdue : (aD, oD) ∈ R) (hsub : ∀ p ∈ tlp, p ∈ R) (hR : R = tl ++ nw)
    (hDo : DatAll tl vo ((acc0 ++ ownN ab W j).map fun x => triD x.1)) (hIs : IntsAre vs ((acc0 ++ ownN ab W j).map fun x => (x.2 : Int))) (heq : ownN ab W (j + 1) = ownN ab W j) :
    TurnT h₀ L (inJ ab W acc0 q1 q2 q0 c oW aD lo lw oD tlp nw y (j + 1)) q s₁ Q .next { s₁ with heap := h', toks := tk' } ∧ TurnT h₀ L (inJ ab W acc0 q1 q2 q0 c oW aD lo lw oD tlp nw y (j + 1)) q s₁ Q .cont { s₁ with heap := h', toks := tk' } := by
  have hj : inJ ab W acc0 q1 q2 q0 c oW aD lo lw oD tlp nw y (j + 1) m' (q1 :: q2 :: q0 :: (c, oW) :: (lw, listOf vs.toArray ns) :: (lo, listOf vo.toArray no) :: R) := by
    refine ⟨h1, h2, h3, t, tl0, tp, vo, vs, no, ns, R, tl, h4, h5, ?_, rfl, hoff, hdue, hsub, hR, heq ▸ hDo, heq ▸ hIs⟩
    rw [h6, show ((W.length : Int) - (j : Int) - 1) = (W.length : Int) - ((j + 1 : Nat) : Int) by omega]
  exact ⟨TurnT.next F N (hall _ (.head _)) (fun p hp => hall p (.tail _ hp)) hne hj, TurnT.cont F N (hall _ (.head _)) (fun p hp => hall p (.tail _ hp)) hne hj⟩
theorem inn_more {ab : Bool} {W : List Nat} {acc0 : List (Tri × Nat)} {q q1 q2 q0 : Addr × Obj} {c aD lo lw D : Addr} {oW oD : Obj} {tlp nw R tl all : List (Addr × Obj)} {y : Str} {j no ns n9 : Nat} {vo vs : List Value} {t tl0 tp ta tb tc td : Tok} {h₀ h' : Heap} {L : Addr} {m' : Str → Option Value} {s₁ : Shared} {tk' : Nat} {Q : Flow → Shared → Prop} {r : Tri} {pl : Nat}
    (F : Fr h₀ L h' m') (N : News h₀ L h' all)
    (hall : ∀ p ∈ (D, ({ cls := .type "tuple", data := .seq #[.int (r.1 : Int) ta, .int (r.2.1 : Int) tb, .int (r.2.2 : Int) tc] n9 } : Obj)) :: q :: q1 :: q2 :: q0 :: (c, oW) :: (lw, listOf (vs ++ [Value.int (pl : Int) td]).toArray ns) :: (lo, listOf (vo ++ [Value.ref D]).toArray no) :: R, p ∈ all)
    {o1 o2 : Obj} (hne : ∀ p ∈ q1 :: q2 :: q0 :: (c, oW) :: (lw, o1) :: (lo, o2) :: R, p.1 ≠ q.1)
    (h1 : m' (Str.ofString "due") = some (.ref aD)) (h2 : m' (Str.ofString "owned") = some (.ref lo)) (h3 : m' (Str.ofString "owners") = some (.ref lw)) (h4 : m' (Str.ofString "typed") = some (.str y t)) (h5 : m' (Str.ofString "letters") = some (.str (letS ab) tl0)) (h6 : m' (Str.ofString "place") = some (.int ((W.length : Int) - (j : Int) - 1) tp))
    (hD : ∀ b ∈ [q.1, q1.1, q2.1, q0.1, c, lw, lo], @Ne Nat D b)
    (hoff : OwnOff R [q1.1, q2.1, q0.1, c, lw, lo]) (hdue : (aD, oD) ∈ R) (hsub : ∀ p ∈ tlp, p ∈ R) (hR : R = tl ++ nw)
    (hDo : DatAll tl vo ((acc0 ++ ownN ab W j).map fun x => triD x.1)) (hIs : IntsAre vs ((acc0 ++ ownN ab W j).map fun x => (x.2 : Int))) (heq : ownN ab W (j + 1) = ownN ab W j ++ [(r, pl)]) :
    TurnT h₀ L (inJ ab W acc0 q1 q2 q0 c oW aD lo lw oD tlp nw y (j + 1)) q s₁ Q .next { s₁ with heap := h', toks := tk' } := by
  have hj : inJ ab W acc0 q1 q2 q0 c oW aD lo lw oD tlp nw y (j + 1) m' (q1 :: q2 :: q0 :: (c, oW) :: (lw, listOf (vs ++ [Value.int (pl : Int) td]).toArray ns) :: (lo, listOf (vo ++ [Value.ref D]).toArray no) :: ((D, ({ cls := .type "tuple", data := .seq #[.int (r.1 : Int) ta, .int (r.2.1 : Int) tb, .int (r.2.2 : Int) tc] n9 } : Obj)) :: R)) := by
    refine ⟨h1, h2, h3, t, tl0, tp, _, _, no, ns, _, (D, _) :: tl, h4, h5, ?_, rfl, fun p hp b hb => ?_, .tail _ hdue, fun p hp => .tail _ (hsub p hp), by rw [hR]; rfl, ?_, ?_⟩
    · rw [h6, show ((W.length : Int) - (j : Int) - 1) = (W.length : Int) - ((j + 1 : Nat) : Int) by omega]
    · rcases List.mem_cons.mp hp with rfl | hp
      · exact hD b (.tail _ hb)
      · exact hoff p hp b hb
    · rw [heq, ← List.append_assoc, List.map_append]
      exact DatAll.append (DatAll.mono (fun p hp => .tail _ hp) hDo) (.cons (.tuple (.head _) (.cons (.int _ _) (.cons (.int _ _) (.cons (.int _ _) .nil)))) .nil)
    · rw [heq, ← List.append_assoc, List.map_append]
      exact hIs.append (.cons _ _ .nil)
  refine TurnT.next F N (hall _ (.tail _ (.head _))) (fun p hp => hall p ?_) (fun p hp => ?_) hj
  · simp only [List.mem_cons] at hp ⊢
    rcases hp with h | h | h | h | h | h | h | h
    · exact .inr (.inr (.inl h))
    · exact .inr (.inr (.inr (.inl h)))
    · exact .inr (.inr (.inr (.inr (.inl h))))
    · exact .inr (.inr (.inr (.inr (.inr (.inl h)))))
    · exact .inr (.inr (.inr (.inr (.inr (.inr (.inl h))))))
    · exact .inr (.inr (.inr (.inr (.inr (.inr (.inr (.inl h)))))))
    · exact .inl h
    · exact .inr (.inr (.inr (.inr (.inr (.inr (.inr (.inr h)))))))
  · simp only [List.mem_cons] at hp hne
    rcases hp with rfl | rfl | rfl | rfl | rfl | rfl | rfl | h
    · exact hne _ (.inl rfl)
    · exact hne _ (.inr (.inl rfl))
    · exact hne _ (.inr (.inr (.inl rfl)))
    · exact hne _ (.inr (.inr (.inr (.inl rfl))))
    · exact hne (lw, o1) (.inr (.inr (.inr (.inr (.inl rfl)))))
    · exact hne (lo, o2) (.inr (.inr (.inr (.inr (.inr (.inl rfl))))))
    · exact hD _ (.head _)
    · exact hne _ (.inr (.inr (.inr (.inr (.inr (.inr h))))))
theorem upE_bd (l : List Nat) (z : Nat) : ∀ f e, e ≤ upE l z f e ∧ upE l z f e ≤ e + f
  | 0, e => by rw [upE]; exact ⟨Nat.le_refl _, Nat.le_refl _⟩
  | f + 1, e => by
    have h := upE_bd l z f (e + 1)
    rw [upE]
    split
    · omega
    · omega
theorem end_bd {W : List Nat} {place sz : Nat} (h : place + sz ≤ W.length) : place + sz ≤ endOf W place sz ∧ endOf W place sz ≤ W.length := by
  unfold endOf
  have := upE_bd W sz (W.length - (place + sz)) (place + sz)
  omega
local macro_rules | `(tactic| walk_at "call ref") => `(tactic| (k_here; k_dflt (refine' strcoll_spec _ _ _ _ _ _ _ _ _ _ _ _ _ _ _ _ _ _ _ _ _ _ ?b ?f ?x ?n ?t ?k ?d ?u ?_; (case b => k_asm); (case f => k_asm); (case x => k_asm); (case n => k_asm); (case t => k_asm); (case k => first | exact rfl | assumption); (case d => ktr_room); (case u => ktr_units)); intro t9 h9 tk9 F9 N9; (try dsimp only)))
section
variable {prog : Program} {w : World} {A : Around} {E : Value → Shared → Prop} {s : Shared} {Q : Value → Shared → Prop}
theorem eq_abc {ab : Bool} {t u : Tok} (h : Q (.bool ab) s) : wpAny (model prog w) A (compareOp .Eq (.str (letS ab) t) (.str (Str.ofString "abc") u)) Q E s := by
  refine eq_str ?_
  rw [letS_eq]
  exact h
end
local macro_rules | `(tactic| walk_at "compareOp Eq str str") => `(tactic| (k_here; refine eq_abc ?_))
theorem lookOwnLast : True ∧ True := by
  try (walk1; fail "looked")
  exact ⟨trivial, trivial⟩
section OwnLast
noncomputable def laterB (n : Nat) : List Stmt := (forB lawFor).drop n
theorem own_last {h₀ : Heap} {L fa : Addr} {cd : Value} {s : Shared} {E : Value → Shared → Prop} {Q : Flow → Shared → Prop} {ab : Bool} {W : List Nat} {acc0 : List (Tri × Nat)} {aP aD lo lw : Addr} {vp : List Value} {np no ns9 : Nat} {q2 q0 : Addr × Obj} {oW oD : Obj} {R tl tlp nw : List (Addr × Obj)} {y : Str} {vo vs : List Value} {j st en sz pl : Nat} {b : Bool} {t tl0 tp tst ten tsz : Tok} {m : Str → Option Value} {h : Heap} {tk tk2 : Nat} {I2 : Addr} {o2' : Obj} {h2 : Heap}
    (F₁ : Fr h₀ L h m) (N₁ : News h₀ L h ((I2, o2') :: (aP, listOf vp.toArray np) :: q2 :: q0 :: (L + 1, oW) :: (lw, listOf vs.toArray ns9) :: (lo, listOf vo.toArray no) :: R))
    (B : Below callerA h₀ [] h₀) (X : (Kf w.params).In h₀) (T : Top vw (looseW vw lz) mean mg mb h₀) (hE : PassesOwn (model pw w) (callerA.deeper (envOfC dL.name dL.scope L fa cd)) (envOfC dL.name dL.scope L fa cd) E)
    (o1 : @LT.lt Nat _ (L + 1) lo) (o2 : @LT.lt Nat _ lo lw) (o3 : @LT.lt Nat _ lw q0.1) (o4 : @LT.lt Nat _ q0.1 aP) (o5 : @LT.lt Nat _ q2.1 aP) (e1 : @Ne Nat q0.1 q2.1) (e2 : @Ne Nat (L + 1) q2.1) (e3 : @Ne Nat lw q2.1) (e4 : @Ne Nat lo q2.1)
    (hm1 : m (Str.ofString "due") = some (.ref aD)) (hm2 : m (Str.ofString "owned") = some (.ref lo)) (hm3 : m (Str.ofString "owners") = some (.ref lw)) (hm4 : m (Str.ofString "typed") = some (.str y t)) (hm5 : m (Str.ofString "letters") = some (.str (letS ab) tl0)) (hm6 : m (Str.ofString "place") = some (.int ((W.length : Int) - (j : Int) - 1) tp))
    (hm7 : m (Str.ofString "start") = some (.int (st : Int) tst)) (hm8 : m (Str.ofString "end") = some (.int (en : Int) ten)) (hm9 : m (Str.ofString "size") = some (.int (sz : Int) tsz)) (hm10 : m (Str.ofString "less") = some (.bool b))
    (hoff : OwnOff R [aP, q2.1, q0.1, L + 1, lw, lo]) (hdue : (aD, oD) ∈ R) (hsub : ∀ p ∈ tlp, p ∈ R) (hR : R = tl ++ nw)
    (hDo : DatAll tl vo ((acc0 ++ ownN ab W j).map fun x => triD x.1)) (hIs : IntsAre vs ((acc0 ++ ownN ab W j).map fun x => (x.2 : Int))) (hvo : vo.length ≤ 200) (hvs : vs.length ≤ 200)
    (hne : ∀ p ∈ (aP, listOf vp.toArray np) :: q2 :: q0 :: (L + 1, oW) :: (lw, listOf vs.toArray ns9) :: (lo, listOf vo.toArray no) :: R, p.1 ≠ I2)
    (hpl : (W.length : Int) - (j : Int) - 1 = (pl : Int)) (hst : st ≤ 100) (hen : en ≤ 100) (hsz : sz ≤ 100) (hplb : pl ≤ 100)
    (hy : b = true → st < pl → ownN ab W (j + 1) = ownN ab W j ++ [((st, en, sz), pl)]) (hn : ¬ (b = true ∧ st < pl) → ownN ab W (j + 1) = ownN ab W j) :
    wpAny (model pw w) (callerA.deeper (envOfC dL.name dL.scope L fa cd)) (execs (laterB 7) (envOfC dL.name dL.scope L fa cd))
      (TurnT h₀ L (inJ ab W acc0 (aP, listOf vp.toArray np) q2 q0 (L + 1) oW aD lo lw oD tlp nw y (j + 1)) (I2, o2') { s with heap := h2, toks := tk2 } Q) E { s with heap := h, toks := tk } := by
  have i1 := neH hne
  have i2 := neH (neT hne)
  have i3 := neH (neT (neT hne))
  have i4 := neH (neT (neT (neT hne)))
  have i5 := neH (neT (neT (neT (neT hne))))
  have i6 := neH (neT (neT (neT (neT (neT hne)))))
  have hoff2 := offI hoff (neT (neT (neT (neT (neT (neT hne))))))
  dsimp only at i1 i2 i3 i4 i5 i6
  have F₂ := fr_kst (ps := [(Str.ofString "due", .ref _), (Str.ofString "owned", .ref _), (Str.ofString "owners", .ref _), (Str.ofString "typed", .str _ _), (Str.ofString "letters", .str _ _), (Str.ofString "place", .int _ _), (Str.ofString "start", .int _ _), (Str.ofString "end", .int _ _), (Str.ofString "size", .int _ _), (Str.ofString "less", .bool _)]) F₁ (by
    rintro p hp
    simp only [List.mem_cons, List.not_mem_nil, or_false] at hp
    rcases hp with rfl | rfl | rfl | rfl | rfl | rfl | rfl | rfl | rfl | rfl
    · exact hm1
    · exact hm2
    · exact hm3
    · exact hm4
    · exact hm5
    · exact hm6
    · exact hm7
    · exact hm8
    · exact hm9
    · exact hm10)
  clear F₁ hm1 hm2 hm3 hm4 hm5 hm6 hm7 hm8 hm9 hm10
  rw [hpl] at F₂
  conv in laterB _ => whnf
  cases b with
  | false =>
    clear hy
    k_steps
    (rename Fr _ _ _ _ => lF)
    (rename News _ _ _ _ => lN)
    exact (inn_same lF lN (fun p hp => by repeat (first | exact hp | refine .tail _ ?_)) hne rfl rfl rfl rfl rfl (by rw [hpl]; rfl) hoff hdue hsub hR hDo hIs (hn (fun hh => Bool.false_ne_true hh.1))).1
  | true =>
    by_cases hlt : st < pl
    · have hy := hy rfl hlt
      clear hn
      k_steps
      (rename Fr _ _ _ _ => lF)
      (rename News _ _ _ _ => lN)
      simp only [List.push_toArray] at lN
      refine inn_more (r := (st, en, sz)) (pl := pl) lF lN (fun p hp => by exact hp) hne rfl rfl rfl rfl rfl (by rw [hpl]; rfl) ?_ hoff hdue hsub hR hDo hIs hy
      simp only [List.forall_mem_cons, List.not_mem_nil, false_implies, implies_true, and_true]
      exact ⟨by k_ne, by k_ne, by k_ne, by k_ne, by k_ne, by k_ne, by k_ne⟩
    · have hn := hn (fun hh => hlt hh.2)
      clear hy
      k_steps
      (rename Fr _ _ _ _ => lF)
      (rename News _ _ _ _ => lN)
      exact (inn_same lF lN (fun p hp => by repeat (first | exact hp | refine .tail _ ?_)) hne rfl rfl rfl rfl rfl (by rw [hpl]; rfl) hoff hdue hsub hR hDo hIs hn).1
end OwnLast
theorem lookOwnLess : True ∧ True := by
  try (walk1; fail "looked")
  exact ⟨trivial, trivial⟩
section OwnLess
section
variable {prog : Program} {w : World} {A : Around} {E : Value → Shared → Prop} {s : Shared} {Q : Value → Shared → Prop}
theorem item_w {value slice : Expr} {W : List Nat} {t : Tok} {i : Int} {u : Tok} (h0 : 0 ≤ i) (h1 : i < (W.length : Int)) (hb : W.length ≤ 64)
    (h : Q (.str (Str.mk #[W.getD i.toNat 0]) s.toks) { s with toks := s.toks + 1 })
    (hs : subscripted slice false (.str (Str.mk W.toArray) t) (.int i u) = operate [.str (Str.mk W.toArray) t, .int i u] (getItem (.str (Str.mk W.toArray) t) (.int i u)) := by with_unfolding_all rfl)
    (ht : ∀ r, letTemporaryGo value (.str (Str.mk W.toArray) t) r = pure () := by intro _; with_unfolding_all rfl) :
    wpAny (model prog w) A (subscriptTail value slice (.str (Str.mk W.toArray) t) (.int i u)) Q E s := by
  have e : (Str.mk W.toArray).cps.size = W.length := List.size_toArray ..
  refine item_strK h0 (by rw [e]; exact h1) (by rw [e]; exact hb) ?_ hs ht
  show Q (.str (Str.mk #[(List.toArray W).toList.getD i.toNat 0]) s.toks) _
  rw [List.toList_toArray]
  exact h
end
theorem less_bool {a b : Nat} : decide (b2i (decide ((Str.mk #[b]).cps.toList < (Str.mk #[a]).cps.toList)) - b2i (decide ((Str.mk #[a]).cps.toList < (Str.mk #[b]).cps.toList)) < 0) = ltb [a] [b] := by
  have h := coll_neg (a := [a]) (b := [b])
  show decide (b2i (decide ([b] < [a])) - b2i (decide ([a] < [b])) < 0) = _
  cases hl : ltb [a] [b] with
  | true => exact decide_eq_true (h.mpr hl)
  | false => exact decide_eq_false fun hh => by rw [h.mp hh] at hl; exact absurd hl (by decide)
local macro_rules | `(tactic| walk_at "subscriptTail Name Name str int") => `(tactic| (k_here; (with_reducible show wpAny _ _ (subscriptTail _ _ (Value.str _ _) (Value.int _ _)) _ _ _); refine item_w (by omega) (by omega) (by omega) ?_))
local macro_rules | `(tactic| walk_at "subscriptTail Name BinOp str int") => `(tactic| (k_here; (with_reducible show wpAny _ _ (subscriptTail _ _ (Value.str _ _) (Value.int _ _)) _ _ _); refine item_w (by omega) (by omega) (by omega) ?_))
local macro_rules | `(tactic| walk_at "execs cons") => `(tactic| (k_here; (with_reducible show wpAny _ _ (execs (Stmt.If (Expr.BoolOp _ _ _) _ _ _ :: _) _) _ _ _); refine Stop.go ?_))
theorem own_less {h₀ : Heap} {L fa : Addr} {cd : Value} {s : Shared} {E : Value → Shared → Prop} {Q : Flow → Shared → Prop} {ab : Bool} {W : List Nat} {acc0 : List (Tri × Nat)} {aP aD lo lw : Addr} {vp : List Value} {np no ns9 : Nat} {q2 q0 : Addr × Obj} {oW oD : Obj} {tW : Tok} {R tl tlp nw : List (Addr × Obj)} {y : Str} {vo vs : List Value} {j st en sz pl : Nat} {t tl0 tp tst ten tsz : Tok} {m : Str → Option Value} {h : Heap} {tk tk2 : Nat} {I2 : Addr} {o2' : Obj} {h2 : Heap}
    (F₁ : Fr h₀ L h m) (N₁ : News h₀ L h ((I2, o2') :: (aP, listOf vp.toArray np) :: q2 :: q0 :: (L + 1, oW) :: (lw, listOf vs.toArray ns9) :: (lo, listOf vo.toArray no) :: R))
    (B : Below callerA h₀ [] h₀) (X : (Kf w.params).In h₀) (T : Top vw (looseW vw lz) mean mg mb h₀) (hE : PassesOwn (model pw w) (callerA.deeper (envOfC dL.name dL.scope L fa cd)) (envOfC dL.name dL.scope L fa cd) E)
    (hW : oW.data = .cell (some (.str ⟨W.toArray⟩ tW))) (hWl : W.length ≤ 60)
    (o1 : @LT.lt Nat _ (L + 1) lo) (o2 : @LT.lt Nat _ lo lw) (o3 : @LT.lt Nat _ lw q0.1) (o4 : @LT.lt Nat _ q0.1 aP) (o5 : @LT.lt Nat _ q2.1 aP) (e1 : @Ne Nat q0.1 q2.1) (e2 : @Ne Nat (L + 1) q2.1) (e3 : @Ne Nat lw q2.1) (e4 : @Ne Nat lo q2.1)
    (hm1 : m (Str.ofString "due") = some (.ref aD)) (hm2 : m (Str.ofString "owned") = some (.ref lo)) (hm3 : m (Str.ofString "owners") = some (.ref lw)) (hm4 : m (Str.ofString "typed") = some (.str y t)) (hm5 : m (Str.ofString "letters") = some (.str (letS ab) tl0)) (hm6 : m (Str.ofString "place") = some (.int ((W.length : Int) - (j : Int) - 1) tp))
    (hm7 : m (Str.ofString "start") = some (.int (st : Int) tst)) (hm8 : m (Str.ofString "end") = some (.int (en : Int) ten)) (hm9 : m (Str.ofString "size") = some (.int (sz : Int) tsz))
    (hoff : OwnOff R [aP, q2.1, q0.1, L + 1, lw, lo]) (hdue : (aD, oD) ∈ R) (hsub : ∀ p ∈ tlp, p ∈ R) (hR : R = tl ++ nw)
    (hDo : DatAll tl vo ((acc0 ++ ownN ab W j).map fun x => triD x.1)) (hIs : IntsAre vs ((acc0 ++ ownN ab W j).map fun x => (x.2 : Int))) (hvo : vo.length ≤ 200) (hvs : vs.length ≤ 200)
    (hne : ∀ p ∈ (aP, listOf vp.toArray np) :: q2 :: q0 :: (L + 1, oW) :: (lw, listOf vs.toArray ns9) :: (lo, listOf vo.toArray no) :: R, p.1 ≠ I2)
    (hpl : (W.length : Int) - (j : Int) - 1 = (pl : Int)) (hst : st ≤ 100) (hen : en ≤ W.length) (hsz : sz ≤ en) (hsz1 : 1 ≤ sz) (hplb : pl ≤ 100)
    (hy : isLess ab W en sz = true → st < pl → ownN ab W (j + 1) = ownN ab W j ++ [((st, en, sz), pl)]) (hn : ¬ (isLess ab W en sz = true ∧ st < pl) → ownN ab W (j + 1) = ownN ab W j) :
    wpAny (model pw w) (callerA.deeper (envOfC dL.name dL.scope L fa cd)) (execs (laterB 6) (envOfC dL.name dL.scope L fa cd))
      (TurnT h₀ L (inJ ab W acc0 (aP, listOf vp.toArray np) q2 q0 (L + 1) oW aD lo lw oD tlp nw y (j + 1)) (I2, o2') { s with heap := h2, toks := tk2 } Q) E { s with heap := h, toks := tk } := by
  have i1 := neH hne
  have i2 := neH (neT hne)
  have i3 := neH (neT (neT hne))
  have i4 := neH (neT (neT (neT hne)))
  have i5 := neH (neT (neT (neT (neT hne))))
  have i6 := neH (neT (neT (neT (neT (neT hne)))))
  have hoff2 := offI hoff (neT (neT (neT (neT (neT (neT hne))))))
  dsimp only at i1 i2 i3 i4 i5 i6
  have hWl64 : W.length ≤ 64 := by omega
  have F₂ := fr_kst (ps := [(Str.ofString "due", .ref _), (Str.ofString "owned", .ref _), (Str.ofString "owners", .ref _), (Str.ofString "typed", .str _ _), (Str.ofString "letters", .str _ _), (Str.ofString "place", .int _ _), (Str.ofString "start", .int _ _), (Str.ofString "end", .int _ _), (Str.ofString "size", .int _ _)]) F₁ (by
    rintro p hp
    simp only [List.mem_cons, List.not_mem_nil, or_false] at hp
    rcases hp with rfl | rfl | rfl | rfl | rfl | rfl | rfl | rfl | rfl
    · exact hm1
    · exact hm2
    · exact hm3
    · exact hm4
    · exact hm5
    · exact hm6
    · exact hm7
    · exact hm8
    · exact hm9)
  clear F₁ hm1 hm2 hm3 hm4 hm5 hm6 hm7 hm8 hm9
  conv in laterB _ => whnf
  k_steps
  · unfold Stop
    have he : en = W.length := by omega
    rw [less_end he] at hy hn
    (rename Fr _ _ _ _ => lF)
    (rename News _ _ _ _ => lN)
    refine own_last (b := ab) lF (fun p hp => lN p (by repeat (first | exact hp | refine .tail _ ?_))) B X T hE o1 o2 o3 o4 o5 e1 e2 e3 e4 (by rfl) (by rfl) (by rfl) (by rfl) (by rfl) (by rfl) (by rfl) (by rfl) (by rfl) (by rfl) hoff hdue hsub hR hDo hIs hvo hvs hne hpl hst (by omega) (by omega) hplb hy hn
  · unfold Stop
    have he : en ≠ W.length := by omega
    rw [less_in he] at hy hn
    (rename Fr _ _ _ _ => lF)
    (rename News _ _ _ _ => lN)
    have eb : decide (b2i (decide ([W.getD ((en : Int) - (sz : Int)).toNat 0] < [W.getD (en : Int).toNat 0])) - b2i (decide ([W.getD (en : Int).toNat 0] < [W.getD ((en : Int) - (sz : Int)).toNat 0])) < 0) = ltb [W.getD en 0] [W.getD (en - sz) 0] := by
      rw [show ((en : Int) - (sz : Int)).toNat = en - sz by omega, show (en : Int).toNat = en by omega]
      exact less_bool
    refine own_last (b := ltb [W.getD en 0] [W.getD (en - sz) 0]) lF (fun p hp => lN p (by repeat (first | exact hp | refine .tail _ ?_))) B X T hE o1 o2 o3 o4 o5 e1 e2 e3 e4 (by rfl) (by rfl) (by rfl) (by rfl) (by rfl) (by rfl) (by rfl) (by rfl) (by rfl) (congrArg (fun b => some (Value.bool b)) eb) hoff hdue hsub hR hDo hIs hvo hvs hne hpl hst (by omega) (by omega) hplb hy hn
end OwnLess
theorem lookOwnEnds : True ∧ True := by
  try (walk1; fail "looked")
  exact ⟨trivial, trivial⟩
section OwnEnds
theorem upS_le (l : List Nat) (z : Nat) : ∀ s, upS l z s ≤ s
  | 0 => by rw [upS]; exact Nat.le_refl _
  | s + 1 => by
    have h := upS_le l z s
    rw [upS]
    split
    · omega
    · exact Nat.le_refl _
theorem start_le {W : List Nat} {pl sz : Nat} : startOf W pl sz ≤ pl := upS_le ..
local macro_rules | `(tactic| walk_at "execs cons") => `(tactic| (k_here; (with_reducible show wpAny _ _ (execs (Stmt.If (Expr.Compare _ _ _ _) _ (_ :: _) _ :: _) _) _ _ _); refine Stop.go ?_))
theorem own_ends {h₀ : Heap} {L fa : Addr} {cd : Value} {s : Shared} {E : Value → Shared → Prop} {Q : Flow → Shared → Prop} {ab : Bool} {W : List Nat} {due : List Tri} {acc0 : List (Tri × Nat)} {aP aD lo lw : Addr} {vp vd : List Value} {np nd no ns9 : Nat} {q2 q0 : Addr × Obj} {oW : Obj} {tW : Tok} {R tl tlp tlD nw : List (Addr × Obj)} {y : Str} {vo vs : List Value} {j sz pl : Nat} {t tl0 tp tsz : Tok} {m : Str → Option Value} {h : Heap} {tk tk2 : Nat} {I2 : Addr} {o2' : Obj} {h2 : Heap}
    (F₁ : Fr h₀ L h m) (N₁ : News h₀ L h ((I2, o2') :: (aP, listOf vp.toArray np) :: q2 :: q0 :: (L + 1, oW) :: (lw, listOf vs.toArray ns9) :: (lo, listOf vo.toArray no) :: R))
    (B : Below callerA h₀ [] h₀) (X : (Kf w.params).In h₀) (T : Top vw (looseW vw lz) mean mg mb h₀) (hE : PassesOwn (model pw w) (callerA.deeper (envOfC dL.name dL.scope L fa cd)) (envOfC dL.name dL.scope L fa cd) E)
    (hW : oW.data = .cell (some (.str ⟨W.toArray⟩ tW))) (hWl : W.length ≤ 60)
    (o1 : @LT.lt Nat _ (L + 1) lo) (o2 : @LT.lt Nat _ lo lw) (o3 : @LT.lt Nat _ lw q0.1) (o4 : @LT.lt Nat _ q0.1 aP) (o5 : @LT.lt Nat _ q2.1 aP) (e1 : @Ne Nat q0.1 q2.1) (e2 : @Ne Nat (L + 1) q2.1) (e3 : @Ne Nat lw q2.1) (e4 : @Ne Nat lo q2.1)
    (hm1 : m (Str.ofString "due") = some (.ref aD)) (hm2 : m (Str.ofString "owned") = some (.ref lo)) (hm3 : m (Str.ofString "owners") = some (.ref lw)) (hm4 : m (Str.ofString "typed") = some (.str y t)) (hm5 : m (Str.ofString "letters") = some (.str (letS ab) tl0)) (hm6 : m (Str.ofString "place") = some (.int ((W.length : Int) - (j : Int) - 1) tp)) (hm7 : m (Str.ofString "size") = some (.int (sz : Int) tsz))
    (hoff : OwnOff R [aP, q2.1, q0.1, L + 1, lw, lo]) (hdue : (aD, listOf vd.toArray nd) ∈ R) (hsub : ∀ p ∈ tlp, p ∈ R) (hR : R = tl ++ nw) (hDue : DatAll tlD vd (due.map triD)) (hsD : ∀ p ∈ tlD, p ∈ nw)
    (hDo : DatAll tl vo ((acc0 ++ ownN ab W j).map fun x => triD x.1)) (hIs : IntsAre vs ((acc0 ++ ownN ab W j).map fun x => (x.2 : Int))) (hvo : vo.length ≤ 200) (hvs : vs.length ≤ 200)
    (hne : ∀ p ∈ (aP, listOf vp.toArray np) :: q2 :: q0 :: (L + 1, oW) :: (lw, listOf vs.toArray ns9) :: (lo, listOf vo.toArray no) :: R, p.1 ≠ I2)
    (hpl : (W.length : Int) - (j : Int) - 1 = (pl : Int)) (hfit : pl + sz ≤ W.length) (hsz1 : 1 ≤ sz)
    (htold : 2 * sz ≤ endOf W pl sz - startOf W pl sz → (startOf W pl sz, endOf W pl sz, sz) ∈ due)
    (hy : 2 * sz ≤ endOf W pl sz - startOf W pl sz → isLess ab W (endOf W pl sz) sz = true → startOf W pl sz < pl → ownN ab W (j + 1) = ownN ab W j ++ [((startOf W pl sz, endOf W pl sz, sz), pl)])
    (hn : ¬ (2 * sz ≤ endOf W pl sz - startOf W pl sz ∧ isLess ab W (endOf W pl sz) sz = true ∧ startOf W pl sz < pl) → ownN ab W (j + 1) = ownN ab W j) :
    wpAny (model pw w) (callerA.deeper (envOfC dL.name dL.scope L fa cd)) (execs (laterB 3) (envOfC dL.name dL.scope L fa cd))
      (TurnT h₀ L (inJ ab W acc0 (aP, listOf vp.toArray np) q2 q0 (L + 1) oW aD lo lw (listOf vd.toArray nd) tlp nw y (j + 1)) (I2, o2') { s with heap := h2, toks := tk2 } Q) E { s with heap := h, toks := tk } := by
  have i1 := neH hne
  have i2 := neH (neT hne)
  have i3 := neH (neT (neT hne))
  have i4 := neH (neT (neT (neT hne)))
  have i5 := neH (neT (neT (neT (neT hne))))
  have i6 := neH (neT (neT (neT (neT (neT hne)))))
  have hoff2 := offI hoff (neT (neT (neT (neT (neT (neT hne))))))
  dsimp only at i1 i2 i3 i4 i5 i6
  have hWl64 : W.length ≤ 64 := by omega
  have F₂ := fr_kst (ps := [(Str.ofString "due", .ref _), (Str.ofString "owned", .ref _), (Str.ofString "owners", .ref _), (Str.ofString "typed", .str _ _), (Str.ofString "letters", .str _ _), (Str.ofString "place", .int _ _), (Str.ofString "size", .int _ _)]) F₁ (by
    rintro p hp
    simp only [List.mem_cons, List.not_mem_nil, or_false] at hp
    rcases hp with rfl | rfl | rfl | rfl | rfl | rfl | rfl
    · exact hm1
    · exact hm2
    · exact hm3
    · exact hm4
    · exact hm5
    · exact hm6
    · exact hm7)
  clear F₁ hm1 hm2 hm3 hm4 hm5 hm6 hm7
  rw [hpl] at F₂
  conv in laterB _ => whnf
  have hstl : startOf W pl sz ≤ pl := start_le
  have hbd := end_bd hfit
  k_steps
  unfold Stop
  (rename Fr _ _ _ _ => lF)
  (rename News _ _ _ _ => lN)
  rw [← Int.natCast_add]
  have eU : upS (Str.mk W.toArray).cps.toList sz pl = startOf W pl sz := by show upS (List.toArray _).toList _ _ = _; rw [List.toList_toArray]; rfl
  have eE : upE (Str.mk W.toArray).cps.toList sz ((Str.mk W.toArray).cps.size - (pl + sz)) (pl + sz) = endOf W pl sz := by show upE (List.toArray _).toList _ ((List.toArray _).size - _) _ = _; rw [List.toList_toArray, List.size_toArray]; rfl
  generalize hst : startOf W pl sz = st at *
  generalize hen : endOf W pl sz = en at *
  clear hst hen
  k_dflt (refine' ends_spec _ _ _ _ _ _ _ _ _ _ _ _ _ _ _ _ _ _ _ _ _ _ _ _ _ _ ?b lF ?x lN ?t ?k ?d ?u ?h1 ?h2 ?h3 ?h4 ?_; (case b => k_asm); (case x => k_asm); (case t => k_asm); (case k => first | exact rfl | assumption); (case d => ktr_room); (case u => ktr_units); (case h1 => show (List.toArray _).size ≤ _; rw [List.size_toArray]; omega); (case h2 => omega); (case h3 => rfl); (case h4 => show _ ≤ (List.toArray _).size; rw [List.size_toArray]; omega))
  clear lF lN
  intro t1 t2 n9 a9 h5 tk5 lt5 F5 N5
  rw [eU, eE] at N5
  clear eU eE
  k_steps
  · (rename _ < 2 * _ => hlt)
    (rename Fr _ _ _ _ => lF)
    (rename News _ _ _ _ => lN)
    exact (inn_same lF lN (fun p hp => by repeat (first | exact hp | refine .tail _ ?_)) hne rfl rfl rfl rfl rfl (by rw [hpl]; rfl) hoff hdue hsub hR hDo hIs (hn fun hh => by omega)).2
  · unfold Stop
    (rename ¬ (_ < 2 * _) => hge)
    have hper : 2 * sz ≤ en - st := by omega
    have htold := htold hper
    (rename News _ _ _ _ => lN)
    refine tri_notIn (nd := nd) (t := (st, en, sz)) (ds := due) lN ?_ hDue ?_ (.tuple (.head _) (.cons (.int _ _) (.cons (.int _ _) (.cons (.int _ _) .nil)))) (fun _ h => h) (by ktr_units) ?_
    · repeat (first | exact hdue | refine .tail _ ?_)
    · intro q hq
      have h9 : q ∈ R := hR ▸ List.mem_append.mpr (.inr (hsD q hq))
      repeat (first | exact h9 | refine .tail _ ?_)
    · skip
      have hc : due.contains (st, en, sz) = true := List.contains_iff_mem.mpr htold
      rw [hc, Bool.not_true]
      clear hc htold
      k_steps
      unfold Stop
      (rename Fr _ _ _ _ => lF)
      (rename News _ _ _ _ => lN)
      refine own_less lF (fun p hp => lN p (by repeat (first | exact hp | refine .tail _ ?_))) B X T hE hW hWl o1 o2 o3 o4 o5 e1 e2 e3 e4 (by rfl) (by rfl) (by rfl) (by rfl) (by rfl) (by rw [hpl]; rfl) (by rfl) (by rfl) (by rfl) hoff hdue hsub hR hDo hIs hvo hvs hne hpl (by omega) (by omega) (by omega) hsz1 (by omega) (fun g1 g2 => hy hper g1 g2) (fun g => hn fun hh => g hh.2)
end OwnEnds
theorem lookInner : True ∧ True := by
  try (walk1; fail "looked")
  exact ⟨trivial, trivial⟩
section Inner
local macro_rules | `(tactic| k_ne) => `(tactic| (refine neN ?_; (try dsimp only); first | with_reducible assumption | exact Ne.symm (by with_reducible assumption) | omega))
theorem own_yes {ab : Bool} {W : List Nat} {j sz pl : Nat} {p : Pc} (hp : (pcsOf W)[j]? = some p) (hz : szOf p = sz) (hl : W.length - 1 - j = pl) (h1 : 2 * sz ≤ endOf W pl sz - startOf W pl sz) (h2 : isLess ab W (endOf W pl sz) sz = true) (h3 : startOf W pl sz < pl) : ownN ab W (j + 1) = ownN ab W j ++ [((startOf W pl sz, endOf W pl sz, sz), pl)] := by
  subst hz hl
  exact ownN_some hp (owns_yes h1 h2 h3)
theorem own_no {ab : Bool} {W : List Nat} {j sz pl : Nat} {p : Pc} (hp : (pcsOf W)[j]? = some p) (hz : szOf p = sz) (hl : W.length - 1 - j = pl) (h : ¬ (2 * sz ≤ endOf W pl sz - startOf W pl sz ∧ isLess ab W (endOf W pl sz) sz = true ∧ startOf W pl sz < pl)) : ownN ab W (j + 1) = ownN ab W j := by
  subst hz hl
  exact ownN_none hp (if_neg h)
theorem ownN_len (ab : Bool) (W : List Nat) (j : Nat) : (ownN ab W j).length ≤ j := by
  unfold ownN
  refine Nat.le_trans (List.length_filterMap_le ..) ?_
  rw [List.length_zipIdx, List.length_take]
  omega
local macro_rules | `(tactic| walk_at "execs cons") => `(tactic| (k_here; (with_reducible show wpAny _ _ (execs (Stmt.Assign [Expr.Tuple _ _ _] _ _ :: _) _) _ _ _); refine Stop.go ?_))
theorem inner_turn {h₀ : Heap} {L fa : Addr} {cd : Value} {s : Shared} {E : Value → Shared → Prop} {Q : Flow → Shared → Prop} {ab : Bool} {W : List Nat} {due : List Tri} {acc0 : List (Tri × Nat)} {aP aD lo lw : Addr} {vp vd : List Value} {np nd : Nat} {q2 q0 : Addr × Obj} {oW : Obj} {tW : Tok} {tlp tlD nw : List (Addr × Obj)} {y : Str}
    (B : Below callerA h₀ [] h₀) (X : (Kf w.params).In h₀) (T : Top vw (looseW vw lz) mean mg mb h₀) (hE : PassesOwn (model pw w) (callerA.deeper (envOfC dL.name dL.scope L fa cd)) (envOfC dL.name dL.scope L fa cd) E)
    (hW : oW.data = .cell (some (.str ⟨W.toArray⟩ tW))) (o1 : @LT.lt Nat _ (L + 1) lo) (o2 : @LT.lt Nat _ lo lw) (o3 : @LT.lt Nat _ lw q0.1) (o4 : @LT.lt Nat _ q0.1 aP) (o5 : @LT.lt Nat _ q2.1 aP)
    (e1 : @Ne Nat q0.1 q2.1) (e2 : @Ne Nat (L + 1) q2.1) (e3 : @Ne Nat lw q2.1) (e4 : @Ne Nat lo q2.1)
    (hWl : W.length ≤ 60) (hacc : acc0.length ≤ 64) (hgood : ∀ j p, (pcsOf W)[j]? = some p → j < W.length ∧ turnOk W due (W.length - 1 - j) p = true) (hPc : DatAll tlp vp ((pcsOf W).map pcD)) (hDue : DatAll tlD vd (due.map triD)) (hsD : ∀ p ∈ tlD, p ∈ nw)
    {j : Nat} {v : Value} {m₂ : Str → Option Value} {nx : List (Addr × Obj)} {h2 : Heap} {tk2 : Nat} {I2 : Addr} {o2' : Obj} (hv2 : vp[j]? = some v) (hJ : inJ ab W acc0 (aP, listOf vp.toArray np) q2 q0 (L + 1) oW aD lo lw (listOf vd.toArray nd) tlp nw y j m₂ nx)
    (hne : ∀ p ∈ nx, p.1 ≠ I2) (F₁ : Fr h₀ L h2 m₂) (N₁ : News h₀ L h2 ((I2, o2') :: nx)) :
    wpAny (model pw w) (callerA.deeper (envOfC dL.name dL.scope L fa cd)) (assign (forT lawFor) (envOfC dL.name dL.scope L fa cd) v) (fun _ s₂ => wpAny (model pw w) (callerA.deeper (envOfC dL.name dL.scope L fa cd)) (execs (forB lawFor) (envOfC dL.name dL.scope L fa cd))
      (TurnT h₀ L (inJ ab W acc0 (aP, listOf vp.toArray np) q2 q0 (L + 1) oW aD lo lw (listOf vd.toArray nd) tlp nw y (j + 1)) (I2, o2') { s with heap := h2, toks := tk2 } Q) E s₂) E { s with heap := h2, toks := tk2 } := by
  obtain ⟨hm1, hm2, hm3, t, tl0, tp, vo, vs, no, ns9, R, tl, hm4, hm5, hm6, rfl, hoff, hdue, hsub, hR, hDo, hIs⟩ := hJ
  obtain ⟨d, hd1, hd2⟩ := dat_at hPc hv2
  rw [List.getElem?_map] at hd1
  obtain ⟨p, hp, rfl⟩ := Option.map_eq_some_iff.mp hd1
  obtain ⟨av, nv, tv1, tv2, rfl, hav⟩ := pc_at hd2
  have havR : (av, _) ∈ R := hsub _ hav
  have hgw := hgood j p hp
  have hf := turn_facts hgw.2
  have hjl := hgw.1
  have hWl64 : W.length ≤ 64 := Nat.le_trans hWl (by decide)
  have hfit := hf.fits
  have hpos := hf.pos
  have hsz : p.1.length + p.2.length ≤ 60 := by
    have h1 : szOf p = p.1.length + p.2.length := rfl
    omega
  have hsz2 : szOf p = p.1.length + p.2.length := rfl
  have i1 := neH hne
  have i2 := neH (neT hne)
  have i3 := neH (neT (neT hne))
  have i4 := neH (neT (neT (neT hne)))
  have i5 := neH (neT (neT (neT (neT hne))))
  have i6 := neH (neT (neT (neT (neT (neT hne)))))
  have hoff2 := offI hoff (neT (neT (neT (neT (neT (neT hne))))))
  dsimp only at i1 i2 i3 i4 i5 i6
  have F₂ := fr_kst (ps := [(Str.ofString "due", .ref _), (Str.ofString "owned", .ref _), (Str.ofString "owners", .ref _), (Str.ofString "typed", .str _ _), (Str.ofString "letters", .str _ _), (Str.ofString "place", .int _ _)]) F₁ (by
    rintro p hp
    simp only [List.mem_cons, List.not_mem_nil, or_false] at hp
    rcases hp with rfl | rfl | rfl | rfl | rfl | rfl
    · exact hm1
    · exact hm2
    · exact hm3
    · exact hm4
    · exact hm5
    · exact hm6)
  clear F₁
  have hszp : szOf p = (p.1 ++ p.2).length := by rw [List.length_append]; rfl
  have hown := ownN_len ab W j
  have hvo : vo.length ≤ 200 := by rw [hDo.length, List.length_map, List.length_append]; omega
  have hvs : vs.length ≤ 200 := by rw [hIs.length, List.length_map, List.length_append]; omega
  conv in forT lawFor => whnf
  conv in forB lawFor => whnf
  k_steps
  · unfold Stop
    k_dflt (refine LCg.ListComp_U (F₀ := by k_asm) (by with_unfolding_all rfl) (by decide) (by rfl) (by decide) (by rfl) ?_)
    k_steps
    unfold Stop
    (rename Fr _ _ _ _ => lF)
    (rename News _ _ _ _ => lN)
    (rename IsRange _ _ _ _ _ _ _ _ => hRg)
    refine LCg.CompSrc.range rfl lF lN hRg (small_one (by (try clear i1 i2 i3 i4 i5 i6 e1 e2 e3 e4 o1 o2 o3 o4 o5); omega) (by (try clear i1 i2 i3 i4 i5 i6 e1 e2 e3 e4 o1 o2 o3 o4 o5); omega) (by (try clear i1 i2 i3 i4 i5 i6 e1 e2 e3 e4 o1 o2 o3 o4 o5); omega) (by (try clear i1 i2 i3 i4 i5 i6 e1 e2 e3 e4 o1 o2 o3 o4 o5); omega)) (rangeSize_nat _ _) (by rw [sizeLine_eq]; omega) (fun g => ?_)
    refine kct_range (fun k => Str.mk (W.drop k.toNat).toArray) ?_ ?_
    · clear lF lN
      intro k t9 I oI C oC D m9 ys h9 tk9 E9 hlo hhi hC hx F9 N9 off ne mk
      k_steps
      (rename Fr _ _ _ _ => fF)
      (rename News _ _ _ _ => fN)
      exact ⟨_, _, _, rfl, fF, fN, off, trivial, kct_el (cut_from (by (try clear i1 i2 i3 i4 i5 i6 e1 e2 e3 e4 o1 o2 o3 o4 o5); omega) (by (try clear i1 i2 i3 i4 i5 i6 e1 e2 e3 e4 o1 o2 o3 o4 o5); omega)).symm rfl rfl⟩
    · clear lF lN
      unfold KPfDone
      intro ys hys hln
      have hst := StrsAre.ofCarried (ys := ys) (ss := (rangeKs (W.length - (j : Int) - 1 + 1) _).map fun k => Str.mk (W.drop k.toNat).toArray) (by rw [List.map_map]; exact hys)
      k_steps
      unfold Stop
      (rename Fr _ _ _ _ => lF)
      (rename News _ _ _ _ => lN)
      refine min_strs (nn := ys.length) rfl lF lN (.head _) hst (by rw [List.length_map, rangeKs_length]; (try clear i1 i2 i3 i4 i5 i6 e1 e2 e3 e4 o1 o2 o3 o4 o5); omega) ?_
      clear lF lN
      intro x3 t3 h3 tk3 hx3 F3 N3
      rw [cuts_are (place := W.length - 1 - j) (by (try clear i1 i2 i3 i4 i5 i6 e1 e2 e3 e4 o1 o2 o3 o4 o5); omega), show (W.length - (j : Int) - 1 + ((p.1 ++ p.2).length : Int) - (W.length - (j : Int) - 1 + 1)).toNat = szOf p - 1 by (try clear i1 i2 i3 i4 i5 i6 e1 e2 e3 e4 o1 o2 o3 o4 o5); omega, ← hf.least (by (try clear i1 i2 i3 i4 i5 i6 e1 e2 e3 e4 o1 o2 o3 o4 o5); omega)] at hx3
      have hx4 : x3 = Str.mk (W.drop (W.length - (j : Int) - 1 + (p.1.length : Int)).toNat).toArray := by
        rw [show (W.length - (j : Int) - 1 + (p.1.length : Int)).toNat = W.length - 1 - j + p.1.length by (try clear i1 i2 i3 i4 i5 i6 e1 e2 e3 e4 o1 o2 o3 o4 o5); omega, ← hx3, Array.toArray_toList]
      k_steps
      · exfalso
        (rename (_ != _) = true => hbne)
        rw [cut_from (W := W) (i := (W.length : Int) - (j : Int) - 1 + (p.1.length : Int)) (by (try clear i1 i2 i3 i4 i5 i6 e1 e2 e3 e4 o1 o2 o3 o4 o5); omega) (by (try clear i1 i2 i3 i4 i5 i6 e1 e2 e3 e4 o1 o2 o3 o4 o5); omega), hx4] at hbne
        simp at hbne
      · unfold Stop
        (rename Fr _ _ _ _ => lF)
        (rename News _ _ _ _ => lN)
        refine own_ends (pl := W.length - 1 - j) lF (fun p hp => lN p (by repeat (first | exact hp | refine .tail _ ?_))) B X T hE hW hWl o1 o2 o3 o4 o5 e1 e2 e3 e4 (by rfl) (by rfl) (by rfl) (by rfl) (by rfl) (by rfl) (by rfl) hoff hdue hsub hR hDue hsD hDo hIs hvo hvs hne (by (try clear i1 i2 i3 i4 i5 i6 e1 e2 e3 e4 o1 o2 o3 o4 o5); omega) (by (try clear i1 i2 i3 i4 i5 i6 e1 e2 e3 e4 o1 o2 o3 o4 o5); omega) (by (try clear i1 i2 i3 i4 i5 i6 e1 e2 e3 e4 o1 o2 o3 o4 o5); omega) (by rw [← hszp]; exact hf.told) (own_yes hp hszp rfl) (own_no hp hszp rfl)
  · unfold Stop
    (rename Fr _ _ _ _ => lF)
    (rename News _ _ _ _ => lN)
    refine own_ends (pl := W.length - 1 - j) lF (fun p hp => lN p (by repeat (first | exact hp | refine .tail _ ?_))) B X T hE hW hWl o1 o2 o3 o4 o5 e1 e2 e3 e4 (by rfl) (by rfl) (by rfl) (by rfl) (by rfl) (by rfl) (by rfl) hoff hdue hsub hR hDue hsD hDo hIs hvo hvs hne (by (try clear i1 i2 i3 i4 i5 i6 e1 e2 e3 e4 o1 o2 o3 o4 o5); omega) (by (try clear i1 i2 i3 i4 i5 i6 e1 e2 e3 e4 o1 o2 o3 o4 o5); omega) (by (try clear i1 i2 i3 i4 i5 i6 e1 e2 e3 e4 o1 o2 o3 o4 o5); omega) (by rw [← hszp]; exact hf.told) (own_yes hp hszp rfl) (own_no hp hszp rfl)
end Inner
theorem lookOuter : True ∧ True := by
  try (walk1; fail "looked")
  exact ⟨trivial, trivial⟩
section Outer
noncomputable def lawOuter : Stmt := nthS dL.body 4
theorem abAt_succ {ks : List Nat} {i : Nat} {ab : Bool} (h : i = 0 ∧ ab = true ∨ i = 1 ∧ ab = false) : abAt ks (i + 1) = abAt ks i ++ ownAll ab ks := by
  rcases h with ⟨rfl, rfl⟩ | ⟨rfl, rfl⟩ <;> rfl
theorem abAt_len {ks : List Nat} {i : Nat} {ab : Bool} (h : i = 0 ∧ ab = true ∨ i = 1 ∧ ab = false) (hk : ks.length ≤ 13) : (abAt ks i).length ≤ 64 := by
  rcases h with ⟨rfl, rfl⟩ | ⟨rfl, rfl⟩
  · exact Nat.zero_le _
  · show (ownAll true ks).length ≤ 64
    unfold ownAll
    have h1 := ownN_len true (wordOf true ks) (wordOf true ks).length
    rw [word_len] at h1 ⊢
    omega
/-- the outer turn's end -/
theorem out_next {ks : List Nat} {ab : Bool} {i : Nat} {aP aD lo lw L I : Addr} {q0 : Addr × Obj} {oW oD o : Obj} {tW' : Option Value} {vp : List Value} {np : Nat} {tlp nw nx : List (Addr × Obj)} {y : Str} {m' : Str → Option Value} {h₀ h' : Heap} {s₁ : Shared} {tk' : Nat} {Q : Flow → Shared → Prop}
    (F : Fr h₀ L h' m') (N : News h₀ L h' nx) (hab : i = 0 ∧ ab = true ∨ i = 1 ∧ ab = false) (hlen : vp.length = (wordOf ab ks).length) (hW : oW.data = .cell tW') (o1 : @LT.lt Nat _ (L + 1) lo) (o2 : @LT.lt Nat _ lo lw) (o3 : @LT.lt Nat _ lw q0.1)
    (n1 : @Ne Nat q0.1 I) (n2 : @Ne Nat (L + 1) I) (n3 : @Ne Nat lw I) (n4 : @Ne Nat lo I)
    (hJ : inJ ab (wordOf ab ks) (abAt ks i) (aP, listOf vp.toArray np) (I, o) q0 (L + 1) oW aD lo lw oD tlp nw y vp.length m' nx) :
    TurnT h₀ L (outJ (abAt ks) q0 (L + 1) aD lo lw oD nw y (i + 1)) (I, o) s₁ Q .next { s₁ with heap := h', toks := tk' } := by
  obtain ⟨hm1, hm2, hm3, t, tl0, tp, vo, vs, no, ns, R, tl, hm4, hm5, hm6, rfl, hoff, hdue, hsub, hR, hDo, hIs⟩ := hJ
  have e : abAt ks i ++ ownN ab (wordOf ab ks) vp.length = abAt ks (i + 1) := by rw [abAt_succ hab, hlen]; rfl
  rw [e] at hDo hIs
  refine TurnT.next (nx := q0 :: (L + 1, oW) :: (lw, listOf vs.toArray ns) :: (lo, listOf vo.toArray no) :: R) F N (.tail _ (.head _)) (fun p hp => .tail _ (.tail _ hp)) (fun p hp => ?_) ⟨hm1, hm2, hm3, t, oW, _, vo, vs, no, ns, R, tl, hm4, hW, rfl, fun p hp b hb => hoff p hp b (.tail _ (.tail _ hb)), hdue, hR, hDo, hIs, o1, o2, o3⟩
  simp only [List.mem_cons] at hp
  rcases hp with rfl | rfl | rfl | rfl | h
  · exact n1
  · exact n2
  · exact n3
  · exact n4
  · exact hoff p h I (.tail _ (.head _))
theorem lt_of_all {q : Addr × Obj} {l l' : List (Addr × Obj)} {a : Addr} {o' : Obj} (h : ∀ q ∈ l, ∀ p ∈ (a, o') :: l', q.1 < p.1) (hq : q ∈ l) : @LT.lt Nat _ q.1 a := h _ hq _ (.head _)
theorem outer_turn {h₀ : Heap} {L fa : Addr} {cd : Value} {s : Shared} {E : Value → Shared → Prop} {Q : Flow → Shared → Prop} {ns : List Int} {aD lo lw : Addr} {vd : List Value} {nd : Nat} {q0 : Addr × Obj} {tlD nw : List (Addr × Obj)} {y : Str} {ta tb : Tok}
    (B : Below callerA h₀ [] h₀) (X : (Kf w.params).In h₀) (T : Top vw (looseW vw lz) mean mg mb h₀) (hE : PassesOwn (model pw w) (callerA.deeper (envOfC dL.name dL.scope L fa cd)) (envOfC dL.name dL.scope L fa cd) E)
    (hy9 : y.cps.size ≤ 64) (hr1 : readOf 97 98 99 y.cps.toList = wordOf true (ksOf ns)) (hr2 : readOf 99 98 97 y.cps.toList = wordOf false (ksOf ns))
    (hDue : DatAll tlD vd ((repsN (ksOf ns) ((ksOf ns).length / 2)).map triD)) (hsD : ∀ p ∈ tlD, p ∈ nw)
    {i : Nat} {v : Value} {m₁ : Str → Option Value} {nx : List (Addr × Obj)} {h : Heap} {tk : Nat} {I : Addr} {o : Obj} (hv : [Value.str (Str.ofString "abc") ta, Value.str (Str.ofString "cba") tb][i]? = some v)
    (hJ : outJ (abAt (ksOf ns)) q0 (L + 1) aD lo lw (listOf vd.toArray nd) nw y i m₁ nx) (hne : ∀ p ∈ nx, p.1 ≠ I) (F₁ : Fr h₀ L h m₁) (N₁ : News h₀ L h ((I, o) :: nx)) :
    wpAny (model pw w) (callerA.deeper (envOfC dL.name dL.scope L fa cd)) (assign (forT lawOuter) (envOfC dL.name dL.scope L fa cd) v) (fun _ s₂ => wpAny (model pw w) (callerA.deeper (envOfC dL.name dL.scope L fa cd)) (execs (forB lawOuter) (envOfC dL.name dL.scope L fa cd))
      (TurnT h₀ L (outJ (abAt (ksOf ns)) q0 (L + 1) aD lo lw (listOf vd.toArray nd) nw y (i + 1)) (I, o) { s with heap := h, toks := tk } Q) E s₂) E { s with heap := h, toks := tk } := by
  obtain ⟨hm1, hm2, hm3, t, oW, vW, vo, vs, no, ns9, R, tl, hm4, hW, rfl, hoff, hdue, hR, hDo, hIs, o1, o2, o3⟩ := hJ
  obtain ⟨ab, tv, rfl, hab⟩ := lett_at hv
  have e1 := neH hne
  have e2 := neH (neT hne)
  have e3 := neH (neT (neT hne))
  have e4 := neH (neT (neT (neT hne)))
  have hoff1 := offI hoff (neT (neT (neT (neT hne))))
  dsimp only at e1 e2 e3 e4 o3
  have F₂ := fr_kst (ps := [(Str.ofString "due", .ref _), (Str.ofString "owned", .ref _), (Str.ofString "owners", .ref _), (Str.ofString "typed", .str _ _)]) F₁ (by
    rintro p hp
    simp only [List.mem_cons, List.not_mem_nil, or_false] at hp
    rcases hp with rfl | rfl | rfl | rfl
    · exact hm1
    · exact hm2
    · exact hm3
    · exact hm4)
  clear F₁
  have hwl : (wordOf ab (ksOf ns)).length ≤ 64 := by rw [word_len]; exact Nat.le_trans (ks_len _) (by decide)
  have hwl60 := wl ab ns
  have hacc := abAt_len hab (ks_len ns)
  have hgd : ∀ j p, (pcsOf (wordOf ab (ksOf ns)))[j]? = some p → j < (wordOf ab (ksOf ns)).length ∧ turnOk (wordOf ab (ksOf ns)) (repsN (ksOf ns) ((ksOf ns).length / 2)) ((wordOf ab (ksOf ns)).length - 1 - j) p = true := fun j p hp => goodW_at (good_w (good_ks ns) ab) hp
  have hpl := goodW_len (good_w (good_ks ns) ab)
  conv in forT lawOuter => whnf
  conv in forB lawOuter => whnf
  k_steps
  unfold Stop
  (rename Fr _ _ _ _ => lF)
  (rename News _ _ _ _ => lN)
  (rename OwnOff _ [_] => hOffP)
  (rename DatAll _ _ (List.map pcD _) => hPc)
  refine inner_enter (ab := ab) (W := wordOf ab (ksOf ns)) (acc0 := abAt (ksOf ns) i) rfl lF lN (by assumption) hOffP hoff1 hdue hR hDo hIs (by rfl) (by rfl) (by rfl) (by rfl) (by rfl) (by rfl) ?_ ?_ hE
  · clear lF
    intro j v m₂ nx h2 tk2 I2 o2' hv2 hJ2 hne2 F₂ N₂
    have r1 : @LT.lt Nat _ q0.1 _ := lt_of_all (by assumption) (.tail (I, o) (.head _))
    have r2 : @LT.lt Nat _ I _ := lt_of_all (by assumption) (.head (a := (I, o)) _)
    refine inner_turn B X T hE (by assumption) o1 o2 o3 r1 r2 e1 e2 e3 e4 hwl60 hacc hgd hPc hDue hsD hv2 hJ2 hne2 F₂ N₂
  · intro m₂ nx h2 tk2 hJ2 F₂ N₂
    have hvp := hPc.length
    rw [List.length_map, hpl] at hvp
    refine wpAny_execs_nil ?_
    exact out_next F₂ N₂ hab hvp (by assumption) o1 o2 o3 e1 e2 e3 e4 hJ2
end Outer
theorem lookLawEnd : True ∧ True := by
  try (walk1; fail "looked")
  exact ⟨trivial, trivial⟩
section LawEnd
section
variable {prog : Program} {w : World} {A : Around} {E : Value → Shared → Prop} {s : Shared} {h₀ : Heap} {L : Addr} {m : Str → Option Value} {news : List (Addr × Obj)}
theorem met_all {val : Nat → Int} : ∀ n, (∀ i j, i < j → j < n → val i ≠ val j) → (firstMet val n).length = n
  | 0, _ => rfl
  | n + 1, h => by
    have ih := met_all n fun i j h1 h2 => h i j h1 (Nat.lt_succ_of_lt h2)
    have hn : (firstMet val n).any (· == val n) = false := by
      rw [firstMet_any, List.any_eq_false]
      intro x hx
      obtain ⟨i, hi, rfl⟩ := List.mem_map.mp hx
      have := h i n (List.mem_range.mp hi) (Nat.lt_succ_self n)
      simpa using this
    rw [firstMet_succ]
    unfold step_dedup
    rw [hn, if_neg Bool.false_ne_true, List.length_append, ih]
    rfl
theorem set_made {l : Addr} {vs : List Value} {nn : Nat} {ns : List Int} {Q : Value → Shared → Prop} (F : Fr h₀ L s.heap m) (N : News h₀ L s.heap news) (hh : A.handled = none) (hm : (l, listOf vs.toArray nn) ∈ news) (hi : IntsAre vs ns) (hb : ns.length ≤ 1000)
    (hd : ∀ i j, i < j → j < ns.length → ns.getD i 0 ≠ ns.getD j 0)
    (h : ∀ (D : Addr) (h' : Heap) (tk : Nat) (o : Obj) (S : Int → Bool), Fr h₀ L h' m → News h₀ L h' ((D, o) :: news) → o.SetObjOf (intKind prog w) S ns.length → Q (.ref D) { s with heap := h', toks := tk }) :
    wpAny (model prog w) A (call (.type "set") [.ref l]) Q E s := by
  have hl : s.heap.IsList l vs.toArray := ⟨_, (N _ hm).1, rfl, nn, rfl⟩
  have hv : vs.toArray.size = ns.length := by rw [List.size_toArray, hi.length]
  refine PySem.call_set_list (ns := ns) hh hl (by rw [List.toList_toArray]; exact hi) (by rw [hv]; unfold scanBound; omega) fun h' tk hS hk => ?_
  rw [hv] at hS
  have hq := met_all (val := fun i => ns.getD i 0) ns.length hd
  obtain ⟨o, ho, hso⟩ := hS.objOf
  rw [hq] at hso
  have hk' : ∀ b x, s.heap.get? b = some x → h'.get? b = some x := fun b x e => hk b x (Heap.lt_size e) e
  refine h _ h' tk o _ (F.grownK hk') (fun p hp => ?_) hso
  rcases List.mem_cons.mp hp with rfl | hp
  · exact ⟨ho, Nat.ne_of_gt F.ns.lt, next_is_new F⟩
  · exact N.grown hk' p hp
end
theorem nodup_of : ∀ {l : List Nat}, nodupb l = true → l.Nodup
  | [], _ => List.nodup_nil
  | x :: r, h => by
    unfold nodupb at h
    simp only [Bool.and_eq_true, Bool.not_eq_true'] at h
    exact List.nodup_cons.mpr ⟨fun hm => by have := List.contains_iff_mem.mpr hm; rw [h.1] at this; exact Bool.false_ne_true this, nodup_of h.2⟩
theorem ne_at {l : List (Tri × Nat)} (h : nodupb (l.map (·.2)) = true) (i j : Nat) (hij : i < j) (hj : j < (l.map fun x => (x.2 : Int)).length) : (l.map fun x => (x.2 : Int)).getD i 0 ≠ (l.map fun x => (x.2 : Int)).getD j 0 := by
  have hn := nodup_of h
  have hj' : j < l.length := by rwa [List.length_map] at hj
  have hi' : i < l.length := by omega
  have h2 := List.pairwise_iff_getElem.mp hn i j (by rw [List.length_map]; exact hi') (by rw [List.length_map]; exact hj') hij
  rw [List.getD_eq_getElem?_getD, List.getD_eq_getElem?_getD, List.getElem?_map, List.getElem?_map, List.getElem?_eq_getElem hi', List.getElem?_eq_getElem hj']
  simp only [List.getElem_map] at h2
  show ((l[i].2 : Nat) : Int) ≠ ((l[j].2 : Nat) : Int)
  omega
local macro_rules | `(tactic| walk_at "call builtin:len") => `(tactic| (k_here; (with_reducible show wpAny _ _ (call (Value.builtin "len") [Value.ref _]) _ _ _); refine Stop.go ?_))
local macro_rules | `(tactic| walk_at "call type:set cons nil") => `(tactic| (k_here; refine Stop.go ?_))
local macro_rules | `(tactic| walk_at "call type:set") => `(tactic| (k_here; refine Stop.go ?_))
theorem tri_ref {news : List (Addr × Obj)} {v : Value} {t : Tri} (h : DatIn news v (triD t)) : ∃ a, v = .ref a := by
  unfold triD at h
  cases h
  exact ⟨_, rfl⟩
theorem abAt2 (ks : List Nat) : abAt ks 2 = ownAll true ks ++ ownAll false ks := rfl
theorem good_own {ks : List Nat} (h : good ks = true) {t : Tri} (ht : t ∈ repsOf ks) : ((abAt ks 2).map (·.1)).contains t = true := by
  unfold good at h
  simp only [Bool.and_eq_true] at h
  rw [abAt2]
  exact List.all_eq_true.mp h.1.2 t ht
theorem good_nodup {ks : List Nat} (h : good ks = true) : nodupb ((abAt ks 2).map (·.2)) = true := by
  unfold good at h
  simp only [Bool.and_eq_true] at h
  rw [abAt2]
  exact h.2
noncomputable def endJ (aD lo lw : Addr) (nx0 : List (Addr × Obj)) (_ : Nat) (m : Str → Option Value) (nx : List (Addr × Obj)) : Prop :=
  m (Str.ofString "due") = some (.ref aD) ∧ m (Str.ofString "owned") = some (.ref lo) ∧ m (Str.ofString "owners") = some (.ref lw) ∧ nx = nx0
theorem law_end {h₀ : Heap} {L fa : Addr} {cd : Value} {s : Shared} {E : Value → Shared → Prop} {Q : Flow → Shared → Prop} {ns : List Int} {aD lo lw : Addr} {vd : List Value} {nd : Nat} {q0 : Addr × Obj} {tlD nw : List (Addr × Obj)} {y : Str} {m : Str → Option Value} {nx : List (Addr × Obj)} {h : Heap} {tk : Nat}
    (B : Below callerA h₀ [] h₀) (X : (Kf w.params).In h₀) (T : Top vw (looseW vw lz) mean mg mb h₀) (hE : PassesOwn (model pw w) (callerA.deeper (envOfC dL.name dL.scope L fa cd)) (envOfC dL.name dL.scope L fa cd) E)
    (hDue : DatAll tlD vd ((repsN (ksOf ns) ((ksOf ns).length / 2)).map triD)) (hsD : ∀ p ∈ tlD, p ∈ nw)
    (hJ : outJ (abAt (ksOf ns)) q0 (L + 1) aD lo lw (listOf vd.toArray nd) nw y 2 m nx) (F₁ : Fr h₀ L h m) (N₁ : News h₀ L h nx)
    (hret : ∀ h' tk' m', Fr h₀ L h' m' → Q (.ret (.bool true)) { s with heap := h', toks := tk' }) :
    wpAny (model pw w) (callerA.deeper (envOfC dL.name dL.scope L fa cd)) (execs (dL.body.drop 5) (envOfC dL.name dL.scope L fa cd)) Q E { s with heap := h, toks := tk } := by
  obtain ⟨hm1, hm2, hm3, t, oW, vW, vo, vs, no, ns9, R, tl, hm4, hW, rfl, hoff, hdue, hR, hDo, hIs, o1, o2, o3⟩ := hJ
  have F₂ := fr_kst (ps := [(Str.ofString "due", .ref _), (Str.ofString "owned", .ref _), (Str.ofString "owners", .ref _)]) F₁ (by
    rintro p hp
    simp only [List.mem_cons, List.not_mem_nil, or_false] at hp
    rcases hp with rfl | rfl | rfl
    · exact hm1
    · exact hm2
    · exact hm3)
  clear F₁
  have hgd := good_ks ns
  have hDo' : DatAll tl vo (((abAt (ksOf ns) 2).map (·.1)).map triD) := by rw [List.map_map]; exact hDo
  conv in dL.body.drop 5 => whnf
  k_steps
  unfold Stop
  (rename Fr _ _ _ _ => lF)
  (rename News _ _ _ _ => lN)
  refine iter_listT (nn := nd) (vs := vd) (endJ aD lo lw (q0 :: (L + 1, oW) :: (lw, listOf vs.toArray ns9) :: (lo, listOf vo.toArray no) :: R)) rfl (by repeat (first | exact hdue | refine .tail _ ?_)) (fun i m nx hJ => by obtain ⟨-, -, -, rfl⟩ := hJ; repeat (first | exact hdue | refine .tail _ ?_)) lF lN ⟨rfl, rfl, rfl, rfl⟩ ?_ ?_ hE
  · clear lF lN
    rintro i v m₁ nx h1 tk1 I o hv ⟨hn1, hn2, hn3, rfl⟩ hne F₁ N₁
    have F₂ := fr_kst (ps := [(Str.ofString "due", .ref _), (Str.ofString "owned", .ref _), (Str.ofString "owners", .ref _)]) F₁ (by
      rintro p hp
      simp only [List.mem_cons, List.not_mem_nil, or_false] at hp
      rcases hp with rfl | rfl | rfl
      · exact hn1
      · exact hn2
      · exact hn3)
    clear F₁
    obtain ⟨d, hd1, hd2⟩ := dat_at hDue hv
    rw [List.getElem?_map] at hd1
    obtain ⟨r, hr, rfl⟩ := Option.map_eq_some_iff.mp hd1
    have hrm : r ∈ repsOf (ksOf ns) := List.mem_of_getElem? hr
    have hc := good_own hgd hrm
    obtain ⟨av, rfl⟩ := tri_ref hd2
    k_steps
    unfold Stop
    (rename News _ _ _ _ => lN)
    refine tri_notIn (nd := no) (t := r) (ds := (abAt (ksOf ns) 2).map (·.1)) lN ?_ hDo' ?_ hd2 ?_ (by ktr_units) ?_
    · exact .tail _ (.tail _ (.tail _ (.tail _ (.head _))))
    · intro q hq
      have h9 : q ∈ R := hR ▸ List.mem_append.mpr (.inl hq)
      repeat (first | exact h9 | refine .tail _ ?_)
    · intro q hq
      have h9 : q ∈ R := hR ▸ List.mem_append.mpr (.inr (hsD q hq))
      repeat (first | exact h9 | refine .tail _ ?_)
    · rw [hc, Bool.not_true]
      clear hc
      k_steps
      (rename Fr _ _ _ _ => lF)
      (rename News _ _ _ _ => lN)
      exact TurnT.next lF lN (.head _) (fun p hp => .tail _ hp) hne ⟨rfl, rfl, rfl, rfl⟩
  · clear lF lN
    rintro m₁ nx h1 tk1 ⟨hn1, hn2, hn3, rfl⟩ F₁ N₁
    have F₂ := fr_kst (ps := [(Str.ofString "due", .ref _), (Str.ofString "owned", .ref _), (Str.ofString "owners", .ref _)]) F₁ (by
      rintro p hp
      simp only [List.mem_cons, List.not_mem_nil, or_false] at hp
      rcases hp with rfl | rfl | rfl
      · exact hn1
      · exact hn2
      · exact hn3)
    clear F₁
    have hvs : vs.length ≤ 200 := by
      rw [hIs.length, List.length_map, abAt2, List.length_append]
      have h1 := ownN_len true (wordOf true (ksOf ns)) (wordOf true (ksOf ns)).length
      have h2 := ownN_len false (wordOf false (ksOf ns)) (wordOf false (ksOf ns)).length
      have h3 := wl true ns
      have h4 := wl false ns
      unfold ownAll
      omega
    have hb26 : vs.length ≤ 64 := by
      rw [hIs.length, List.length_map, abAt2, List.length_append]
      have h1 := ownN_len true (wordOf true (ksOf ns)) (wordOf true (ksOf ns)).length
      have h2 := ownN_len false (wordOf false (ksOf ns)) (wordOf false (ksOf ns)).length
      have h3 := ks_len ns
      rw [word_len] at h1 h2
      unfold ownAll
      rw [word_len, word_len]
      omega
    k_steps
    unfold Stop
    (rename News _ _ _ _ => lN)
    refine len_ints lN (.tail _ (.tail _ (.head _))) rfl hb26 ?_
    k_steps
    unfold Stop
    (rename Fr _ _ _ _ => lF)
    (rename News _ _ _ _ => lN)
    refine set_made lF lN rfl (.tail _ (.tail _ (.head _))) hIs (by rw [← hIs.length]; omega) (ne_at (good_nodup hgd)) ?_
    clear lF lN
    intro D5 h5 tk5 o5 S5 F5 N5 hso
    k_steps
    unfold Stop
    refine len_sl1 (own := []) N5 hso (by rw [← hIs.length]; omega) ?_
    k_steps
    rw [← hIs.length, beq_self_eq_true]
    exact hret _ _ _ F5
end LawEnd
theorem lookLaw : True ∧ True := by
  try (walk1; fail "looked")
  exact ⟨trivial, trivial⟩
section Law
theorem names_ok : namesOk vw (looseW vw lz) (namesW vw lz) = true := by decide +kernel
theorem imp_ok : importsNone vw = true := by decide +kernel
local macro_rules | `(tactic| k_qdec) => `(tactic| first | exact Mine.names_ok | exact Mine.imp_ok)
theorem law0 : PySem.Challenge.rw_xn0003_01.Holds := by
  refine hd ?_
  w_strict (
    k_go0
    (try k_fold)
    (conv in dL.body => whnf)
    (rename List Int => ns)
    (have hlen9 := ‹IntsAre _ _›.length)
    k_steps
    unfold Stop
    (rename Fr _ _ _ _ => lF)
    (rename News _ _ _ _ => lN)
    (rename DatAll _ _ _ => hDue)
    (rename OwnOff _ _ => hOff)
    refine outer_enter rfl lF lN (by assumption) (by assumption) (by assumption) (by assumption) (by assumption) (by assumption) (by assumption) rfl rfl rfl rfl hDue ?_ ?_ (by first | passes_own | assumption)
    · clear lF lN
      intro i v m₁ nx h tk I o hv hJ hne F₁ N₁
      refine outer_turn (by assumption) (by assumption) (by assumption) (by first | passes_own | assumption) (by assumption) (by assumption) (by assumption) hDue (fun p hp => .tail _ (List.mem_append.mpr (.inl hp))) hv hJ hne F₁ N₁
    · clear lF lN
      intro m₁ nx h tk hJ F₁ N₁
      refine law_end (by assumption) (by assumption) (by assumption) (by first | passes_own | assumption) hDue (fun p hp => .tail _ (List.mem_append.mpr (.inl hp))) hJ F₁ N₁ ?_
      intro h' tk' m' hF
      k_steps)
end Law
end Mine
end SecLawHead
theorem PySem.Challenge.cw_xn0003_01_holds : PySem.Challenge.rw_xn0003_01.Holds := by
  exact Mine.law0
