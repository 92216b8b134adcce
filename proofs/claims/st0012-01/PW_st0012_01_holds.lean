import PyProof.Rows.All
import Wide.All
import OpenK.AllK
import Wide.FinOn
import PySem.Challenge.RW_st0012_01
set_option Elab.async false
section
open PySem PySem.W PyProof.Rows PySem.Calls
set_option compiler.extract_closed false in
local macro_rules | `(tactic| walk_at $k) => if ["InvEndN", "CompEnd", "CompSrc", "storeName", "call ref", "call type:zip", "call type:list", "call builtin:iter", "call builtin:divmod", "call builtin:str.join", "eval ListComp", "inplaceOp Add ref ref", "inplaceOp Add str str", "binaryOp Add str str", "subscriptTail", "subscriptTail List", "subscriptTail Name BinOp ref int", "subscriptTail Name Slice ref ref", "exec Assign cons ListComp", "exec For Name Name cons nil", "exec For Name Call cons nil", "exec While Compare cons nil"].contains k.getString then `(tactic| with_reducible apply $(Lean.mkIdent (.mkSimple ("k_" ++ k.getString.map fun c => if c.isAlphanum then c else '_')))) else Lean.Macro.throwUnsupported
section
open PySem PySem.W PyProof.Rows
set_option Elab.async false
set_option compiler.extract_closed false
namespace Mine
set_option maxRecDepth 100000
set_option maxHeartbeats 8000000
/-- the n-th statement of a block -/
def stAt : List Stmt → Nat → Stmt
  | [], _ => .Pass ⟨0, 0, 0, 0⟩
  | x :: _, 0 => x
  | _ :: r, n + 1 => stAt r n
/-- the body, the parameters and the scope of a def -/
noncomputable def bodyAt : Stmt → List Stmt
  | .FunctionDef _ _ b _ _ _ _ _ _ _ => b
  | .ClassDef _ _ _ b _ _ _ _ _ _ _ => b
  | _ => []
noncomputable def parsAt : Stmt → Arguments
  | .FunctionDef _ a _ _ _ _ _ _ _ _ => a
  | _ => default
noncomputable def scopeAt : Stmt → Scope
  | .FunctionDef _ _ _ _ _ _ s _ _ _ => s
  | _ => default
/-- y, which the elaborator finds by unifying with x -/
@[reducible] def lit {α : Type} (x y : α) (_ : x = y) : α := y
def pwv : Program := { PySem.Challenge.pw_st0012_01 with main := { PySem.Challenge.pw_st0012_01.main with body := [stAt PySem.Challenge.pw_st0012_01.main.body 0, stAt PySem.Challenge.pw_st0012_01.main.body 1, stAt PySem.Challenge.pw_st0012_01.main.body 2, stAt PySem.Challenge.pw_st0012_01.main.body 3, stAt PySem.Challenge.pw_st0012_01.main.body 4, stAt PySem.Challenge.pw_st0012_01.main.body 5, stAt PySem.Challenge.pw_st0012_01.main.body 6, stAt PySem.Challenge.pw_st0012_01.main.body 7, stAt PySem.Challenge.pw_st0012_01.main.body 8, stAt PySem.Challenge.pw_st0012_01.main.body 9, stAt PySem.Challenge.pw_st0012_01.main.body 10, stAt PySem.Challenge.pw_st0012_01.main.body 11, stAt PySem.Challenge.pw_st0012_01.main.body 12, stAt PySem.Challenge.pw_st0012_01.main.body 13, stAt PySem.Challenge.pw_st0012_01.main.body 14, stAt PySem.Challenge.pw_st0012_01.main.body 15, stAt PySem.Challenge.pw_st0012_01.main.body 16, stAt PySem.Challenge.pw_st0012_01.main.body 17, stAt PySem.Challenge.pw_st0012_01.main.body 18, stAt PySem.Challenge.pw_st0012_01.main.body 19, stAt PySem.Challenge.pw_st0012_01.main.body 20, stAt PySem.Challenge.pw_st0012_01.main.body 21, stAt PySem.Challenge.pw_st0012_01.main.body 22, stAt PySem.Challenge.pw_st0012_01.main.body 23, stAt PySem.Challenge.pw_st0012_01.main.body 24, stAt PySem.Challenge.pw_st0012_01.main.body 25, stAt PySem.Challenge.pw_st0012_01.main.body 26, stAt PySem.Challenge.pw_st0012_01.main.body 27, stAt PySem.Challenge.pw_st0012_01.main.body 28, stAt PySem.Challenge.pw_st0012_01.main.body 29, stAt PySem.Challenge.pw_st0012_01.main.body 30, stAt PySem.Challenge.pw_st0012_01.main.body 31, stAt PySem.Challenge.pw_st0012_01.main.body 32, stAt PySem.Challenge.pw_st0012_01.main.body 33, stAt PySem.Challenge.pw_st0012_01.main.body 34, stAt PySem.Challenge.pw_st0012_01.main.body 35, stAt PySem.Challenge.pw_st0012_01.main.body 36, stAt PySem.Challenge.pw_st0012_01.main.body 37, stAt PySem.Challenge.pw_st0012_01.main.body 38, stAt PySem.Challenge.pw_st0012_01.main.body 39, stAt PySem.Challenge.pw_st0012_01.main.body 40, stAt PySem.Challenge.pw_st0012_01.main.body 41, stAt PySem.Challenge.pw_st0012_01.main.body 42, stAt PySem.Challenge.pw_st0012_01.main.body 43, stAt PySem.Challenge.pw_st0012_01.main.body 44, stAt PySem.Challenge.pw_st0012_01.main.body 45, stAt PySem.Challenge.pw_st0012_01.main.body 46, stAt PySem.Challenge.pw_st0012_01.main.body 47, stAt PySem.Challenge.pw_st0012_01.main.body 48, stAt PySem.Challenge.pw_st0012_01.main.body 49, stAt PySem.Challenge.pw_st0012_01.main.body 50, stAt PySem.Challenge.pw_st0012_01.main.body 51, stAt PySem.Challenge.pw_st0012_01.main.body 52, stAt PySem.Challenge.pw_st0012_01.main.body 53, stAt PySem.Challenge.pw_st0012_01.main.body 54, stAt PySem.Challenge.pw_st0012_01.main.body 55, stAt PySem.Challenge.pw_st0012_01.main.body 56, stAt PySem.Challenge.pw_st0012_01.main.body 57, stAt PySem.Challenge.pw_st0012_01.main.body 58, stAt PySem.Challenge.pw_st0012_01.main.body 59, stAt PySem.Challenge.pw_st0012_01.main.body 60, stAt PySem.Challenge.pw_st0012_01.main.body 61, stAt PySem.Challenge.pw_st0012_01.main.body 62, stAt PySem.Challenge.pw_st0012_01.main.body 63, stAt PySem.Challenge.pw_st0012_01.main.body 64] } }
def rwv : OpenLaw := { PySem.Challenge.rw_st0012_01 with prog := pwv }
theorem rwv_eq : PySem.Challenge.rw_st0012_01 = rwv := by rfl
/-- the program without the four statements whose names are looser -/
def qv : Program := { pwv with main := { pwv.main with body := [stAt PySem.Challenge.pw_st0012_01.main.body 1, stAt PySem.Challenge.pw_st0012_01.main.body 2, stAt PySem.Challenge.pw_st0012_01.main.body 4, stAt PySem.Challenge.pw_st0012_01.main.body 6, stAt PySem.Challenge.pw_st0012_01.main.body 7, stAt PySem.Challenge.pw_st0012_01.main.body 8, stAt PySem.Challenge.pw_st0012_01.main.body 9, stAt PySem.Challenge.pw_st0012_01.main.body 10, stAt PySem.Challenge.pw_st0012_01.main.body 11, stAt PySem.Challenge.pw_st0012_01.main.body 12, stAt PySem.Challenge.pw_st0012_01.main.body 13, stAt PySem.Challenge.pw_st0012_01.main.body 14, stAt PySem.Challenge.pw_st0012_01.main.body 15, stAt PySem.Challenge.pw_st0012_01.main.body 16, stAt PySem.Challenge.pw_st0012_01.main.body 17, stAt PySem.Challenge.pw_st0012_01.main.body 18, stAt PySem.Challenge.pw_st0012_01.main.body 19, stAt PySem.Challenge.pw_st0012_01.main.body 20, stAt PySem.Challenge.pw_st0012_01.main.body 21, stAt PySem.Challenge.pw_st0012_01.main.body 22, stAt PySem.Challenge.pw_st0012_01.main.body 23, stAt PySem.Challenge.pw_st0012_01.main.body 24, stAt PySem.Challenge.pw_st0012_01.main.body 25, stAt PySem.Challenge.pw_st0012_01.main.body 26, stAt PySem.Challenge.pw_st0012_01.main.body 27, stAt PySem.Challenge.pw_st0012_01.main.body 28, stAt PySem.Challenge.pw_st0012_01.main.body 29, stAt PySem.Challenge.pw_st0012_01.main.body 30, stAt PySem.Challenge.pw_st0012_01.main.body 31, stAt PySem.Challenge.pw_st0012_01.main.body 32, stAt PySem.Challenge.pw_st0012_01.main.body 33, stAt PySem.Challenge.pw_st0012_01.main.body 34, stAt PySem.Challenge.pw_st0012_01.main.body 35, stAt PySem.Challenge.pw_st0012_01.main.body 36, stAt PySem.Challenge.pw_st0012_01.main.body 37, stAt PySem.Challenge.pw_st0012_01.main.body 38, stAt PySem.Challenge.pw_st0012_01.main.body 39, stAt PySem.Challenge.pw_st0012_01.main.body 40, stAt PySem.Challenge.pw_st0012_01.main.body 41, stAt PySem.Challenge.pw_st0012_01.main.body 42, stAt PySem.Challenge.pw_st0012_01.main.body 43, stAt PySem.Challenge.pw_st0012_01.main.body 44, stAt PySem.Challenge.pw_st0012_01.main.body 45, stAt PySem.Challenge.pw_st0012_01.main.body 46, stAt PySem.Challenge.pw_st0012_01.main.body 47, stAt PySem.Challenge.pw_st0012_01.main.body 48, stAt PySem.Challenge.pw_st0012_01.main.body 49, stAt PySem.Challenge.pw_st0012_01.main.body 50, stAt PySem.Challenge.pw_st0012_01.main.body 51, stAt PySem.Challenge.pw_st0012_01.main.body 52, stAt PySem.Challenge.pw_st0012_01.main.body 53, stAt PySem.Challenge.pw_st0012_01.main.body 54, stAt PySem.Challenge.pw_st0012_01.main.body 55, stAt PySem.Challenge.pw_st0012_01.main.body 56, stAt PySem.Challenge.pw_st0012_01.main.body 58, stAt PySem.Challenge.pw_st0012_01.main.body 59, stAt PySem.Challenge.pw_st0012_01.main.body 60, stAt PySem.Challenge.pw_st0012_01.main.body 61, stAt PySem.Challenge.pw_st0012_01.main.body 62, stAt PySem.Challenge.pw_st0012_01.main.body 63, stAt PySem.Challenge.pw_st0012_01.main.body 64] } }
/-- the written part of the heap -/
noncomputable def hd.heap_39 (P : Params) : Frag :=
  @Prod.mk Nat Obj (nat_lit 2) ({ cls := PySem.Value.none, data := PySem.Data.dict (List.toArray ([])) } : Obj) ::
  @Prod.mk Nat Obj (nat_lit 3) ({ cls := PySem.Value.type "dict", data := PySem.Data.dict #[{ hash := PySem.PyData.keyHash P (PySem.Str.ofString "__name__"), key := PySem.Value.str (PySem.Str.ofString "__name__") 165, val := PySem.Value.str (PySem.Str.ofString "law_st0012_01") 464 }, { hash := PySem.PyData.keyHash P (PySem.Str.ofString "__doc__"), key := PySem.Value.str (PySem.Str.ofString "__doc__") 166, val := PySem.Value.none }, { hash := PySem.PyData.keyHash P (PySem.Str.ofString "__package__"), key := PySem.Value.str (PySem.Str.ofString "__package__") 167, val := PySem.Value.none }, { hash := PySem.PyData.keyHash P (PySem.Str.ofString "__loader__"), key := PySem.Value.str (PySem.Str.ofString "__loader__") 168, val := PySem.Value.builtin "__main__.__loader__#opaque" }, { hash := PySem.PyData.keyHash P (PySem.Str.ofString "__spec__"), key := PySem.Value.str (PySem.Str.ofString "__spec__") 169, val := PySem.Value.none }, { hash := PySem.PyData.keyHash P (PySem.Str.ofString "__annotations__"), key := PySem.Value.str (PySem.Str.ofString "__annotations__") 170, val := PySem.Value.ref 6 }, { hash := PySem.PyData.keyHash P (PySem.Str.ofString "__builtins__"), key := PySem.Value.str (PySem.Str.ofString "__builtins__") 171, val := PySem.Value.ref 4 }, { hash := PySem.PyData.keyHash P (PySem.Str.ofString "__file__"), key := PySem.Value.str (PySem.Str.ofString "__file__") 173, val := PySem.Value.str (PySem.Str.ofString "/claim/cut.py") 172 }, { hash := PySem.PyData.keyHash P (PySem.Str.ofString "__cached__"), key := PySem.Value.str (PySem.Str.ofString "__cached__") 174, val := PySem.Value.none }, { hash := PySem.PyData.keyHash P (PySem.Str.ofString "CHAR_MAX"), key := PySem.Value.str (PySem.Str.ofString "CHAR_MAX") 190, val := PySem.Value.int 127 189 }, { hash := PySem.PyData.keyHash P (PySem.Str.ofString "_grouping_intervals"), key := PySem.Value.str (PySem.Str.ofString "_grouping_intervals") 199, val := PySem.Value.ref 21 }, { hash := PySem.PyData.keyHash P (PySem.Str.ofString "_netrclex"), key := PySem.Value.str (PySem.Str.ofString "_netrclex") 259, val := PySem.Value.ref 59 }, { hash := PySem.PyData.keyHash P (PySem.Str.ofString "LPAR"), key := PySem.Value.str (PySem.Str.ofString "LPAR") 263, val := PySem.Value.int 7 262 }, { hash := PySem.PyData.keyHash P (PySem.Str.ofString "RPAR"), key := PySem.Value.str (PySem.Str.ofString "RPAR") 265, val := PySem.Value.int 8 264 }, { hash := PySem.PyData.keyHash P (PySem.Str.ofString "LSQB"), key := PySem.Value.str (PySem.Str.ofString "LSQB") 267, val := PySem.Value.int 9 266 }, { hash := PySem.PyData.keyHash P (PySem.Str.ofString "RSQB"), key := PySem.Value.str (PySem.Str.ofString "RSQB") 269, val := PySem.Value.int 10 268 }, { hash := PySem.PyData.keyHash P (PySem.Str.ofString "COLON"), key := PySem.Value.str (PySem.Str.ofString "COLON") 271, val := PySem.Value.int 11 270 }, { hash := PySem.PyData.keyHash P (PySem.Str.ofString "COMMA"), key := PySem.Value.str (PySem.Str.ofString "COMMA") 273, val := PySem.Value.int 12 272 }, { hash := PySem.PyData.keyHash P (PySem.Str.ofString "SEMI"), key := PySem.Value.str (PySem.Str.ofString "SEMI") 275, val := PySem.Value.int 13 274 }, { hash := PySem.PyData.keyHash P (PySem.Str.ofString "PLUS"), key := PySem.Value.str (PySem.Str.ofString "PLUS") 277, val := PySem.Value.int 14 276 }, { hash := PySem.PyData.keyHash P (PySem.Str.ofString "MINUS"), key := PySem.Value.str (PySem.Str.ofString "MINUS") 279, val := PySem.Value.int 15 278 }, { hash := PySem.PyData.keyHash P (PySem.Str.ofString "STAR"), key := PySem.Value.str (PySem.Str.ofString "STAR") 281, val := PySem.Value.int 16 280 }, { hash := PySem.PyData.keyHash P (PySem.Str.ofString "SLASH"), key := PySem.Value.str (PySem.Str.ofString "SLASH") 283, val := PySem.Value.int 17 282 }, { hash := PySem.PyData.keyHash P (PySem.Str.ofString "VBAR"), key := PySem.Value.str (PySem.Str.ofString "VBAR") 285, val := PySem.Value.int 18 284 }, { hash := PySem.PyData.keyHash P (PySem.Str.ofString "AMPER"), key := PySem.Value.str (PySem.Str.ofString "AMPER") 287, val := PySem.Value.int 19 286 }, { hash := PySem.PyData.keyHash P (PySem.Str.ofString "LESS"), key := PySem.Value.str (PySem.Str.ofString "LESS") 289, val := PySem.Value.int 20 288 }, { hash := PySem.PyData.keyHash P (PySem.Str.ofString "GREATER"), key := PySem.Value.str (PySem.Str.ofString "GREATER") 291, val := PySem.Value.int 21 290 }, { hash := PySem.PyData.keyHash P (PySem.Str.ofString "EQUAL"), key := PySem.Value.str (PySem.Str.ofString "EQUAL") 293, val := PySem.Value.int 22 292 }, { hash := PySem.PyData.keyHash P (PySem.Str.ofString "DOT"), key := PySem.Value.str (PySem.Str.ofString "DOT") 295, val := PySem.Value.int 23 294 }, { hash := PySem.PyData.keyHash P (PySem.Str.ofString "PERCENT"), key := PySem.Value.str (PySem.Str.ofString "PERCENT") 297, val := PySem.Value.int 24 296 }, { hash := PySem.PyData.keyHash P (PySem.Str.ofString "LBRACE"), key := PySem.Value.str (PySem.Str.ofString "LBRACE") 299, val := PySem.Value.int 25 298 }, { hash := PySem.PyData.keyHash P (PySem.Str.ofString "RBRACE"), key := PySem.Value.str (PySem.Str.ofString "RBRACE") 301, val := PySem.Value.int 26 300 }, { hash := PySem.PyData.keyHash P (PySem.Str.ofString "EQEQUAL"), key := PySem.Value.str (PySem.Str.ofString "EQEQUAL") 303, val := PySem.Value.int 27 302 }, { hash := PySem.PyData.keyHash P (PySem.Str.ofString "NOTEQUAL"), key := PySem.Value.str (PySem.Str.ofString "NOTEQUAL") 305, val := PySem.Value.int 28 304 }, { hash := PySem.PyData.keyHash P (PySem.Str.ofString "LESSEQUAL"), key := PySem.Value.str (PySem.Str.ofString "LESSEQUAL") 307, val := PySem.Value.int 29 306 }, { hash := PySem.PyData.keyHash P (PySem.Str.ofString "GREATEREQUAL"), key := PySem.Value.str (PySem.Str.ofString "GREATEREQUAL") 309, val := PySem.Value.int 30 308 }, { hash := PySem.PyData.keyHash P (PySem.Str.ofString "TILDE"), key := PySem.Value.str (PySem.Str.ofString "TILDE") 311, val := PySem.Value.int 31 310 }, { hash := PySem.PyData.keyHash P (PySem.Str.ofString "CIRCUMFLEX"), key := PySem.Value.str (PySem.Str.ofString "CIRCUMFLEX") 313, val := PySem.Value.int 32 312 }, { hash := PySem.PyData.keyHash P (PySem.Str.ofString "LEFTSHIFT"), key := PySem.Value.str (PySem.Str.ofString "LEFTSHIFT") 315, val := PySem.Value.int 33 314 }, { hash := PySem.PyData.keyHash P (PySem.Str.ofString "RIGHTSHIFT"), key := PySem.Value.str (PySem.Str.ofString "RIGHTSHIFT") 317, val := PySem.Value.int 34 316 }, { hash := PySem.PyData.keyHash P (PySem.Str.ofString "DOUBLESTAR"), key := PySem.Value.str (PySem.Str.ofString "DOUBLESTAR") 319, val := PySem.Value.int 35 318 }, { hash := PySem.PyData.keyHash P (PySem.Str.ofString "PLUSEQUAL"), key := PySem.Value.str (PySem.Str.ofString "PLUSEQUAL") 321, val := PySem.Value.int 36 320 }, { hash := PySem.PyData.keyHash P (PySem.Str.ofString "MINEQUAL"), key := PySem.Value.str (PySem.Str.ofString "MINEQUAL") 323, val := PySem.Value.int 37 322 }, { hash := PySem.PyData.keyHash P (PySem.Str.ofString "STAREQUAL"), key := PySem.Value.str (PySem.Str.ofString "STAREQUAL") 325, val := PySem.Value.int 38 324 }, { hash := PySem.PyData.keyHash P (PySem.Str.ofString "SLASHEQUAL"), key := PySem.Value.str (PySem.Str.ofString "SLASHEQUAL") 327, val := PySem.Value.int 39 326 }, { hash := PySem.PyData.keyHash P (PySem.Str.ofString "PERCENTEQUAL"), key := PySem.Value.str (PySem.Str.ofString "PERCENTEQUAL") 329, val := PySem.Value.int 40 328 }, { hash := PySem.PyData.keyHash P (PySem.Str.ofString "AMPEREQUAL"), key := PySem.Value.str (PySem.Str.ofString "AMPEREQUAL") 331, val := PySem.Value.int 41 330 }, { hash := PySem.PyData.keyHash P (PySem.Str.ofString "VBAREQUAL"), key := PySem.Value.str (PySem.Str.ofString "VBAREQUAL") 333, val := PySem.Value.int 42 332 }, { hash := PySem.PyData.keyHash P (PySem.Str.ofString "CIRCUMFLEXEQUAL"), key := PySem.Value.str (PySem.Str.ofString "CIRCUMFLEXEQUAL") 335, val := PySem.Value.int 43 334 }, { hash := PySem.PyData.keyHash P (PySem.Str.ofString "LEFTSHIFTEQUAL"), key := PySem.Value.str (PySem.Str.ofString "LEFTSHIFTEQUAL") 337, val := PySem.Value.int 44 336 }, { hash := PySem.PyData.keyHash P (PySem.Str.ofString "RIGHTSHIFTEQUAL"), key := PySem.Value.str (PySem.Str.ofString "RIGHTSHIFTEQUAL") 339, val := PySem.Value.int 45 338 }, { hash := PySem.PyData.keyHash P (PySem.Str.ofString "DOUBLESTAREQUAL"), key := PySem.Value.str (PySem.Str.ofString "DOUBLESTAREQUAL") 341, val := PySem.Value.int 46 340 }, { hash := PySem.PyData.keyHash P (PySem.Str.ofString "DOUBLESLASH"), key := PySem.Value.str (PySem.Str.ofString "DOUBLESLASH") 343, val := PySem.Value.int 47 342 }, { hash := PySem.PyData.keyHash P (PySem.Str.ofString "DOUBLESLASHEQUAL"), key := PySem.Value.str (PySem.Str.ofString "DOUBLESLASHEQUAL") 345, val := PySem.Value.int 48 344 }, { hash := PySem.PyData.keyHash P (PySem.Str.ofString "AT"), key := PySem.Value.str (PySem.Str.ofString "AT") 347, val := PySem.Value.int 49 346 }, { hash := PySem.PyData.keyHash P (PySem.Str.ofString "ATEQUAL"), key := PySem.Value.str (PySem.Str.ofString "ATEQUAL") 349, val := PySem.Value.int 50 348 }, { hash := PySem.PyData.keyHash P (PySem.Str.ofString "RARROW"), key := PySem.Value.str (PySem.Str.ofString "RARROW") 351, val := PySem.Value.int 51 350 }, { hash := PySem.PyData.keyHash P (PySem.Str.ofString "ELLIPSIS"), key := PySem.Value.str (PySem.Str.ofString "ELLIPSIS") 353, val := PySem.Value.int 52 352 }, { hash := PySem.PyData.keyHash P (PySem.Str.ofString "COLONEQUAL"), key := PySem.Value.str (PySem.Str.ofString "COLONEQUAL") 355, val := PySem.Value.int 53 354 }, { hash := PySem.PyData.keyHash P (PySem.Str.ofString "EXCLAMATION"), key := PySem.Value.str (PySem.Str.ofString "EXCLAMATION") 357, val := PySem.Value.int 54 356 }, { hash := PySem.PyData.keyHash P (PySem.Str.ofString "NT_OFFSET"), key := PySem.Value.str (PySem.Str.ofString "NT_OFFSET") 359, val := PySem.Value.int 256 358 }, { hash := PySem.PyData.keyHash P (PySem.Str.ofString "EXACT_TOKEN_TYPES"), key := PySem.Value.str (PySem.Str.ofString "EXACT_TOKEN_TYPES") 456, val := PySem.Value.ref 64 }, { hash := PySem.PyData.keyHash P (PySem.Str.ofString "ISNONTERMINAL"), key := PySem.Value.str (PySem.Str.ofString "ISNONTERMINAL") 463, val := PySem.Value.ref 73 }, { hash := PySem.PyData.keyHash P (PySem.Str.ofString "_law_names"), key := PySem.Value.str (PySem.Str.ofString "_law_names") 471, val := PySem.Value.ref 80 }, { hash := PySem.PyData.keyHash P (PySem.Str.ofString "_law_lexer"), key := PySem.Value.str (PySem.Str.ofString "_law_lexer") 480, val := PySem.Value.ref 87 }, { hash := PySem.PyData.keyHash P (PySem.Str.ofString "_law_row"), key := PySem.Value.str (PySem.Str.ofString "_law_row") 493, val := PySem.Value.ref 94 }, { hash := PySem.PyData.keyHash P (PySem.Str.ofString "_law_times"), key := PySem.Value.str (PySem.Str.ofString "_law_times") 502, val := PySem.Value.ref 101 }, { hash := PySem.PyData.keyHash P (PySem.Str.ofString "_law_figures"), key := PySem.Value.str (PySem.Str.ofString "_law_figures") 513, val := PySem.Value.ref 108 }, { hash := PySem.PyData.keyHash P (PySem.Str.ofString "_law_text"), key := PySem.Value.str (PySem.Str.ofString "_law_text") 519, val := PySem.Value.ref 113 }, { hash := PySem.PyData.keyHash P (PySem.Str.ofString "law"), key := PySem.Value.str (PySem.Str.ofString "law") 525, val := PySem.Value.ref 118 }] 70 } : Obj) ::
  @Prod.mk Nat Obj (nat_lit 6) ({ cls := PySem.Value.type "dict", data := PySem.Data.dict (List.toArray ([])) } : Obj) ::
  @Prod.mk Nat Obj (nat_lit 15) ({ cls := PySem.Value.type "tuple", data := PySem.Data.seq (List.toArray ([])) } : Obj) ::
  @Prod.mk Nat Obj (nat_lit 17) ({ cls := PySem.Value.type "tuple", data := PySem.Data.seq (List.toArray (PySem.Value.str (PySem.Str.ofString "grouping") 194 :: PySem.Value.str (PySem.Str.ofString "last_interval") 195 :: PySem.Value.str (PySem.Str.ofString "interval") 196 :: [])) } : Obj) ::
  @Prod.mk Nat Obj (nat_lit 18) ({ cls := PySem.Value.type "tuple", data := PySem.Data.seq (List.toArray ([])) } : Obj) ::
  @Prod.mk Nat Obj (nat_lit 20) ({ cls := PySem.Value.type "code", data := PySem.Data.fields (List.toArray (PySem.Value.str (PySem.Str.ofString "_grouping_intervals") 191 :: PySem.Value.str (PySem.Str.ofString "_grouping_intervals") 192 :: PySem.Value.str (PySem.Str.ofString "/claim/cut.py") 193 :: PySem.Value.int 3 0 :: PySem.Value.int 1 0 :: PySem.Value.int 0 0 :: PySem.Value.int 0 0 :: PySem.Value.int 35 0 :: PySem.Value.ref 15 :: PySem.Value.bool true :: PySem.Value.int 181 0 :: PySem.Value.ref 16 :: PySem.Value.none :: PySem.Value.ref 17 :: PySem.Value.ref 18 :: PySem.Value.ref 19 :: PySem.Value.int 197 0 :: PySem.Value.int 3 0 :: PySem.Value.str (PySem.Str.ofString "/claim/cut.py") 198 :: [])) } : Obj) ::
  @Prod.mk Nat Obj (nat_lit 21) ({ cls := PySem.Value.type "function", dict := none, slots := #[], data := PySem.Data.func { name := PySem.Str.ofString "_grouping_intervals", qualname := PySem.Str.ofString "_grouping_intervals", globals := 3, closure := [], defaults := PySem.Value.none, kwdefaults := PySem.Value.none, doc := PySem.Value.none, pyModule := PySem.Value.str (PySem.Str.ofString "cpy313.locale") 187, annotations := none, code := PySem.Value.ref 20, closureTuple := PySem.Value.none, builtins := 0, params := lit (parsAt (stAt PySem.Challenge.pw_st0012_01.main.body 2)) (.mk _ _ _ _ _ _ _) rfl, body := PySem.FuncBody.stmts (lit (bodyAt (stAt PySem.Challenge.pw_st0012_01.main.body 2)) [_, _] rfl), scope := lit (scopeAt (stAt PySem.Challenge.pw_st0012_01.main.body 2)) (.mk _ _ _ _ _) rfl } } : Obj) ::
  @Prod.mk Nat Obj (nat_lit 29) ({ cls := PySem.Value.type "tuple", data := PySem.Data.seq (List.toArray ([])) } : Obj) ::
  @Prod.mk Nat Obj (nat_lit 31) ({ cls := PySem.Value.type "tuple", data := PySem.Data.seq (List.toArray (PySem.Value.str (PySem.Str.ofString "self") 217 :: PySem.Value.str (PySem.Str.ofString "fp") 218 :: [])) } : Obj) ::
  @Prod.mk Nat Obj (nat_lit 32) ({ cls := PySem.Value.type "tuple", data := PySem.Data.seq (List.toArray ([])) } : Obj) ::
  @Prod.mk Nat Obj (nat_lit 34) ({ cls := PySem.Value.type "code", data := PySem.Data.fields (List.toArray (PySem.Value.str (PySem.Str.ofString "__init__") 214 :: PySem.Value.str (PySem.Str.ofString "_netrclex.__init__") 215 :: PySem.Value.str (PySem.Str.ofString "/claim/cut.py") 216 :: PySem.Value.int 18 0 :: PySem.Value.int 2 0 :: PySem.Value.int 0 0 :: PySem.Value.int 0 0 :: PySem.Value.int 3 0 :: PySem.Value.ref 29 :: PySem.Value.bool true :: PySem.Value.int 181 0 :: PySem.Value.ref 30 :: PySem.Value.none :: PySem.Value.ref 31 :: PySem.Value.ref 32 :: PySem.Value.ref 33 :: PySem.Value.int 219 0 :: PySem.Value.int 18 0 :: PySem.Value.str (PySem.Str.ofString "/claim/cut.py") 220 :: [])) } : Obj) ::
  @Prod.mk Nat Obj (nat_lit 35) ({ cls := PySem.Value.type "function", dict := none, slots := #[], data := PySem.Data.func { name := PySem.Str.ofString "__init__", qualname := PySem.Str.ofString "_netrclex.__init__", globals := 3, closure := [], defaults := PySem.Value.none, kwdefaults := PySem.Value.none, doc := PySem.Value.none, pyModule := PySem.Value.str (PySem.Str.ofString "cpy313.netrc") 200, annotations := none, code := PySem.Value.ref 34, closureTuple := PySem.Value.none, builtins := 0, params := lit (parsAt (stAt (bodyAt (stAt PySem.Challenge.pw_st0012_01.main.body 4)) 0)) (.mk _ _ _ _ _ _ _) rfl, body := PySem.FuncBody.stmts (lit (bodyAt (stAt (bodyAt (stAt PySem.Challenge.pw_st0012_01.main.body 4)) 0)) [_, _, _, _] rfl), scope := lit (scopeAt (stAt (bodyAt (stAt PySem.Challenge.pw_st0012_01.main.body 4)) 0)) (.mk _ _ _ _ _) rfl } } : Obj) ::
  @Prod.mk Nat Obj (nat_lit 36) ({ cls := PySem.Value.type "tuple", data := PySem.Data.seq (List.toArray ([])) } : Obj) ::
  @Prod.mk Nat Obj (nat_lit 38) ({ cls := PySem.Value.type "tuple", data := PySem.Data.seq (List.toArray (PySem.Value.str (PySem.Str.ofString "self") 225 :: PySem.Value.str (PySem.Str.ofString "ch") 226 :: [])) } : Obj) ::
  @Prod.mk Nat Obj (nat_lit 39) ({ cls := PySem.Value.type "tuple", data := PySem.Data.seq (List.toArray ([])) } : Obj) ::
  @Prod.mk Nat Obj (nat_lit 41) ({ cls := PySem.Value.type "code", data := PySem.Data.fields (List.toArray (PySem.Value.str (PySem.Str.ofString "_read_char") 222 :: PySem.Value.str (PySem.Str.ofString "_netrclex._read_char") 223 :: PySem.Value.str (PySem.Str.ofString "/claim/cut.py") 224 :: PySem.Value.int 24 0 :: PySem.Value.int 1 0 :: PySem.Value.int 0 0 :: PySem.Value.int 0 0 :: PySem.Value.int 3 0 :: PySem.Value.ref 36 :: PySem.Value.bool true :: PySem.Value.int 181 0 :: PySem.Value.ref 37 :: PySem.Value.none :: PySem.Value.ref 38 :: PySem.Value.ref 39 :: PySem.Value.ref 40 :: PySem.Value.int 227 0 :: PySem.Value.int 24 0 :: PySem.Value.str (PySem.Str.ofString "/claim/cut.py") 228 :: [])) } : Obj) ::
  @Prod.mk Nat Obj (nat_lit 42) ({ cls := PySem.Value.type "function", dict := none, slots := #[], data := PySem.Data.func { name := PySem.Str.ofString "_read_char", qualname := PySem.Str.ofString "_netrclex._read_char", globals := 3, closure := [], defaults := PySem.Value.none, kwdefaults := PySem.Value.none, doc := PySem.Value.none, pyModule := PySem.Value.str (PySem.Str.ofString "cpy313.netrc") 200, annotations := none, code := PySem.Value.ref 41, closureTuple := PySem.Value.none, builtins := 0, params := lit (parsAt (stAt (bodyAt (stAt PySem.Challenge.pw_st0012_01.main.body 4)) 1)) (.mk _ _ _ _ _ _ _) rfl, body := PySem.FuncBody.stmts (lit (bodyAt (stAt (bodyAt (stAt PySem.Challenge.pw_st0012_01.main.body 4)) 1)) [_, _, _] rfl), scope := lit (scopeAt (stAt (bodyAt (stAt PySem.Challenge.pw_st0012_01.main.body 4)) 1)) (.mk _ _ _ _ _) rfl } } : Obj) ::
  @Prod.mk Nat Obj (nat_lit 43) ({ cls := PySem.Value.type "tuple", data := PySem.Data.seq (List.toArray ([])) } : Obj) ::
  @Prod.mk Nat Obj (nat_lit 45) ({ cls := PySem.Value.type "tuple", data := PySem.Data.seq (List.toArray (PySem.Value.str (PySem.Str.ofString "self") 233 :: PySem.Value.str (PySem.Str.ofString "token") 234 :: PySem.Value.str (PySem.Str.ofString "fiter") 235 :: PySem.Value.str (PySem.Str.ofString "ch") 236 :: [])) } : Obj) ::
  @Prod.mk Nat Obj (nat_lit 46) ({ cls := PySem.Value.type "tuple", data := PySem.Data.seq (List.toArray ([])) } : Obj) ::
  @Prod.mk Nat Obj (nat_lit 48) ({ cls := PySem.Value.type "code", data := PySem.Data.fields (List.toArray (PySem.Value.str (PySem.Str.ofString "get_token") 230 :: PySem.Value.str (PySem.Str.ofString "_netrclex.get_token") 231 :: PySem.Value.str (PySem.Str.ofString "/claim/cut.py") 232 :: PySem.Value.int 30 0 :: PySem.Value.int 1 0 :: PySem.Value.int 0 0 :: PySem.Value.int 0 0 :: PySem.Value.int 3 0 :: PySem.Value.ref 43 :: PySem.Value.bool true :: PySem.Value.int 181 0 :: PySem.Value.ref 44 :: PySem.Value.none :: PySem.Value.ref 45 :: PySem.Value.ref 46 :: PySem.Value.ref 47 :: PySem.Value.int 237 0 :: PySem.Value.int 30 0 :: PySem.Value.str (PySem.Str.ofString "/claim/cut.py") 238 :: [])) } : Obj) ::
  @Prod.mk Nat Obj (nat_lit 49) ({ cls := PySem.Value.type "function", dict := none, slots := #[], data := PySem.Data.func { name := PySem.Str.ofString "get_token", qualname := PySem.Str.ofString "_netrclex.get_token", globals := 3, closure := [], defaults := PySem.Value.none, kwdefaults := PySem.Value.none, doc := PySem.Value.none, pyModule := PySem.Value.str (PySem.Str.ofString "cpy313.netrc") 200, annotations := none, code := PySem.Value.ref 48, closureTuple := PySem.Value.none, builtins := 0, params := lit (parsAt (stAt (bodyAt (stAt PySem.Challenge.pw_st0012_01.main.body 4)) 2)) (.mk _ _ _ _ _ _ _) rfl, body := PySem.FuncBody.stmts (lit (bodyAt (stAt (bodyAt (stAt PySem.Challenge.pw_st0012_01.main.body 4)) 2)) [_, _, _, _, _] rfl), scope := lit (scopeAt (stAt (bodyAt (stAt PySem.Challenge.pw_st0012_01.main.body 4)) 2)) (.mk _ _ _ _ _) rfl } } : Obj) ::
  @Prod.mk Nat Obj (nat_lit 50) ({ cls := PySem.Value.type "tuple", data := PySem.Data.seq (List.toArray ([])) } : Obj) ::
  @Prod.mk Nat Obj (nat_lit 52) ({ cls := PySem.Value.type "tuple", data := PySem.Data.seq (List.toArray (PySem.Value.str (PySem.Str.ofString "self") 243 :: PySem.Value.str (PySem.Str.ofString "token") 244 :: [])) } : Obj) ::
  @Prod.mk Nat Obj (nat_lit 53) ({ cls := PySem.Value.type "tuple", data := PySem.Data.seq (List.toArray ([])) } : Obj) ::
  @Prod.mk Nat Obj (nat_lit 55) ({ cls := PySem.Value.type "code", data := PySem.Data.fields (List.toArray (PySem.Value.str (PySem.Str.ofString "push_token") 240 :: PySem.Value.str (PySem.Str.ofString "_netrclex.push_token") 241 :: PySem.Value.str (PySem.Str.ofString "/claim/cut.py") 242 :: PySem.Value.int 57 0 :: PySem.Value.int 2 0 :: PySem.Value.int 0 0 :: PySem.Value.int 0 0 :: PySem.Value.int 3 0 :: PySem.Value.ref 50 :: PySem.Value.bool true :: PySem.Value.int 181 0 :: PySem.Value.ref 51 :: PySem.Value.none :: PySem.Value.ref 52 :: PySem.Value.ref 53 :: PySem.Value.ref 54 :: PySem.Value.int 245 0 :: PySem.Value.int 57 0 :: PySem.Value.str (PySem.Str.ofString "/claim/cut.py") 246 :: [])) } : Obj) ::
  @Prod.mk Nat Obj (nat_lit 56) ({ cls := PySem.Value.type "function", dict := none, slots := #[], data := PySem.Data.func { name := PySem.Str.ofString "push_token", qualname := PySem.Str.ofString "_netrclex.push_token", globals := 3, closure := [], defaults := PySem.Value.none, kwdefaults := PySem.Value.none, doc := PySem.Value.none, pyModule := PySem.Value.str (PySem.Str.ofString "cpy313.netrc") 200, annotations := none, code := PySem.Value.ref 55, closureTuple := PySem.Value.none, builtins := 0, params := lit (parsAt (stAt (bodyAt (stAt PySem.Challenge.pw_st0012_01.main.body 4)) 3)) (.mk _ _ _ _ _ _ _) rfl, body := PySem.FuncBody.stmts (lit (bodyAt (stAt (bodyAt (stAt PySem.Challenge.pw_st0012_01.main.body 4)) 3)) [_] rfl), scope := lit (scopeAt (stAt (bodyAt (stAt PySem.Challenge.pw_st0012_01.main.body 4)) 3)) (.mk _ _ _ _ _) rfl } } : Obj) ::
  @Prod.mk Nat Obj (nat_lit 57) ({ cls := PySem.Value.type "tuple", data := PySem.Data.seq (List.toArray (PySem.Value.str (PySem.Str.ofString "instream") 248 :: PySem.Value.str (PySem.Str.ofString "lineno") 249 :: PySem.Value.str (PySem.Str.ofString "pushback") 250 :: PySem.Value.str (PySem.Str.ofString "whitespace") 251 :: [])) } : Obj) ::
  @Prod.mk Nat Obj (nat_lit 58) ({ cls := PySem.Value.type "dict", data := PySem.Data.dict #[{ hash := PySem.PyData.keyHash P (PySem.Str.ofString "__module__"), key := PySem.Value.str (PySem.Str.ofString "__module__") 209, val := PySem.Value.str (PySem.Str.ofString "cpy313.netrc") 200 }, { hash := PySem.PyData.keyHash P (PySem.Str.ofString "__firstlineno__"), key := PySem.Value.str (PySem.Str.ofString "__firstlineno__") 213, val := PySem.Value.int 16 212 }, { hash := PySem.PyData.keyHash P (PySem.Str.ofString "__init__"), key := PySem.Value.str (PySem.Str.ofString "__init__") 221, val := PySem.Value.ref 35 }, { hash := PySem.PyData.keyHash P (PySem.Str.ofString "_read_char"), key := PySem.Value.str (PySem.Str.ofString "_read_char") 229, val := PySem.Value.ref 42 }, { hash := PySem.PyData.keyHash P (PySem.Str.ofString "get_token"), key := PySem.Value.str (PySem.Str.ofString "get_token") 239, val := PySem.Value.ref 49 }, { hash := PySem.PyData.keyHash P (PySem.Str.ofString "push_token"), key := PySem.Value.str (PySem.Str.ofString "push_token") 247, val := PySem.Value.ref 56 }, { hash := PySem.PyData.keyHash P (PySem.Str.ofString "__static_attributes__"), key := PySem.Value.str (PySem.Str.ofString "__static_attributes__") 252, val := PySem.Value.ref 57 }, { hash := PySem.PyData.keyHash P (PySem.Str.ofString "__dict__"), key := PySem.Value.str (PySem.Str.ofString "__dict__") 254, val := PySem.Value.ref 60 }, { hash := PySem.PyData.keyHash P (PySem.Str.ofString "__weakref__"), key := PySem.Value.str (PySem.Str.ofString "__weakref__") 256, val := PySem.Value.ref 61 }, { hash := PySem.PyData.keyHash P (PySem.Str.ofString "__doc__"), key := PySem.Value.str (PySem.Str.ofString "__doc__") 257, val := PySem.Value.none }] 4 } : Obj) ::
  @Prod.mk Nat Obj (nat_lit 59) ({ cls := PySem.Value.type "type", data := PySem.Data.cls { name := PySem.Str.ofString "_netrclex", bases := [PySem.Value.type "object"], mro := [PySem.Value.ref 59, PySem.Value.type "object"], ns := 58, qualname := PySem.Str.ofString "_netrclex" }, slots := #[none, none, some (PySem.Value.str (PySem.Str.ofString "_netrclex") 202), some (PySem.Value.str (PySem.Str.ofString "_netrclex") 210), some (PySem.Value.builtin "object.__new__"), some (PySem.Value.bool true)] } : Obj) ::
  @Prod.mk Nat Obj (nat_lit 60) ({ cls := PySem.Value.type "getset_descriptor", data := PySem.Data.fields (List.toArray (PySem.Value.str (PySem.Str.ofString "__dict__") 253 :: PySem.Value.ref 59 :: PySem.Value.builtin "function.__dict__" :: PySem.Value.builtin "function.__dict__#set" :: [])) } : Obj) ::
  @Prod.mk Nat Obj (nat_lit 61) ({ cls := PySem.Value.type "getset_descriptor", data := PySem.Data.fields (List.toArray (PySem.Value.str (PySem.Str.ofString "__weakref__") 255 :: PySem.Value.ref 59 :: PySem.Value.builtin "ExceptionGroup.__weakref__" :: PySem.Value.none :: [])) } : Obj) ::
  @Prod.mk Nat Obj (nat_lit 64) ({ cls := PySem.Value.type "dict", data := PySem.Data.dict #[{ hash := PySem.PyData.keyHash P (PySem.Str.ofString "!"), key := PySem.Value.str (PySem.Str.ofString "!") 360, val := PySem.Value.int 54 356 }, { hash := PySem.PyData.keyHash P (PySem.Str.ofString "!="), key := PySem.Value.str (PySem.Str.ofString "!=") 362, val := PySem.Value.int 28 304 }, { hash := PySem.PyData.keyHash P (PySem.Str.ofString "%"), key := PySem.Value.str (PySem.Str.ofString "%") 364, val := PySem.Value.int 24 296 }, { hash := PySem.PyData.keyHash P (PySem.Str.ofString "%="), key := PySem.Value.str (PySem.Str.ofString "%=") 366, val := PySem.Value.int 40 328 }, { hash := PySem.PyData.keyHash P (PySem.Str.ofString "&"), key := PySem.Value.str (PySem.Str.ofString "&") 368, val := PySem.Value.int 19 286 }, { hash := PySem.PyData.keyHash P (PySem.Str.ofString "&="), key := PySem.Value.str (PySem.Str.ofString "&=") 370, val := PySem.Value.int 41 330 }, { hash := PySem.PyData.keyHash P (PySem.Str.ofString "("), key := PySem.Value.str (PySem.Str.ofString "(") 372, val := PySem.Value.int 7 262 }, { hash := PySem.PyData.keyHash P (PySem.Str.ofString ")"), key := PySem.Value.str (PySem.Str.ofString ")") 374, val := PySem.Value.int 8 264 }, { hash := PySem.PyData.keyHash P (PySem.Str.ofString "*"), key := PySem.Value.str (PySem.Str.ofString "*") 376, val := PySem.Value.int 16 280 }, { hash := PySem.PyData.keyHash P (PySem.Str.ofString "**"), key := PySem.Value.str (PySem.Str.ofString "**") 378, val := PySem.Value.int 35 318 }, { hash := PySem.PyData.keyHash P (PySem.Str.ofString "**="), key := PySem.Value.str (PySem.Str.ofString "**=") 380, val := PySem.Value.int 46 340 }, { hash := PySem.PyData.keyHash P (PySem.Str.ofString "*="), key := PySem.Value.str (PySem.Str.ofString "*=") 382, val := PySem.Value.int 38 324 }, { hash := PySem.PyData.keyHash P (PySem.Str.ofString "+"), key := PySem.Value.str (PySem.Str.ofString "+") 384, val := PySem.Value.int 14 276 }, { hash := PySem.PyData.keyHash P (PySem.Str.ofString "+="), key := PySem.Value.str (PySem.Str.ofString "+=") 386, val := PySem.Value.int 36 320 }, { hash := PySem.PyData.keyHash P (PySem.Str.ofString ","), key := PySem.Value.str (PySem.Str.ofString ",") 388, val := PySem.Value.int 12 272 }, { hash := PySem.PyData.keyHash P (PySem.Str.ofString "-"), key := PySem.Value.str (PySem.Str.ofString "-") 390, val := PySem.Value.int 15 278 }, { hash := PySem.PyData.keyHash P (PySem.Str.ofString "-="), key := PySem.Value.str (PySem.Str.ofString "-=") 392, val := PySem.Value.int 37 322 }, { hash := PySem.PyData.keyHash P (PySem.Str.ofString "->"), key := PySem.Value.str (PySem.Str.ofString "->") 394, val := PySem.Value.int 51 350 }, { hash := PySem.PyData.keyHash P (PySem.Str.ofString "."), key := PySem.Value.str (PySem.Str.ofString ".") 396, val := PySem.Value.int 23 294 }, { hash := PySem.PyData.keyHash P (PySem.Str.ofString "..."), key := PySem.Value.str (PySem.Str.ofString "...") 398, val := PySem.Value.int 52 352 }, { hash := PySem.PyData.keyHash P (PySem.Str.ofString "/"), key := PySem.Value.str (PySem.Str.ofString "/") 400, val := PySem.Value.int 17 282 }, { hash := PySem.PyData.keyHash P (PySem.Str.ofString "//"), key := PySem.Value.str (PySem.Str.ofString "//") 402, val := PySem.Value.int 47 342 }, { hash := PySem.PyData.keyHash P (PySem.Str.ofString "//="), key := PySem.Value.str (PySem.Str.ofString "//=") 404, val := PySem.Value.int 48 344 }, { hash := PySem.PyData.keyHash P (PySem.Str.ofString "/="), key := PySem.Value.str (PySem.Str.ofString "/=") 406, val := PySem.Value.int 39 326 }, { hash := PySem.PyData.keyHash P (PySem.Str.ofString ":"), key := PySem.Value.str (PySem.Str.ofString ":") 408, val := PySem.Value.int 11 270 }, { hash := PySem.PyData.keyHash P (PySem.Str.ofString ":="), key := PySem.Value.str (PySem.Str.ofString ":=") 410, val := PySem.Value.int 53 354 }, { hash := PySem.PyData.keyHash P (PySem.Str.ofString ";"), key := PySem.Value.str (PySem.Str.ofString ";") 412, val := PySem.Value.int 13 274 }, { hash := PySem.PyData.keyHash P (PySem.Str.ofString "<"), key := PySem.Value.str (PySem.Str.ofString "<") 414, val := PySem.Value.int 20 288 }, { hash := PySem.PyData.keyHash P (PySem.Str.ofString "<<"), key := PySem.Value.str (PySem.Str.ofString "<<") 416, val := PySem.Value.int 33 314 }, { hash := PySem.PyData.keyHash P (PySem.Str.ofString "<<="), key := PySem.Value.str (PySem.Str.ofString "<<=") 418, val := PySem.Value.int 44 336 }, { hash := PySem.PyData.keyHash P (PySem.Str.ofString "<="), key := PySem.Value.str (PySem.Str.ofString "<=") 420, val := PySem.Value.int 29 306 }, { hash := PySem.PyData.keyHash P (PySem.Str.ofString "="), key := PySem.Value.str (PySem.Str.ofString "=") 422, val := PySem.Value.int 22 292 }, { hash := PySem.PyData.keyHash P (PySem.Str.ofString "=="), key := PySem.Value.str (PySem.Str.ofString "==") 424, val := PySem.Value.int 27 302 }, { hash := PySem.PyData.keyHash P (PySem.Str.ofString ">"), key := PySem.Value.str (PySem.Str.ofString ">") 426, val := PySem.Value.int 21 290 }, { hash := PySem.PyData.keyHash P (PySem.Str.ofString ">="), key := PySem.Value.str (PySem.Str.ofString ">=") 428, val := PySem.Value.int 30 308 }, { hash := PySem.PyData.keyHash P (PySem.Str.ofString ">>"), key := PySem.Value.str (PySem.Str.ofString ">>") 429, val := PySem.Value.int 34 316 }, { hash := PySem.PyData.keyHash P (PySem.Str.ofString ">>="), key := PySem.Value.str (PySem.Str.ofString ">>=") 430, val := PySem.Value.int 45 338 }, { hash := PySem.PyData.keyHash P (PySem.Str.ofString "@"), key := PySem.Value.str (PySem.Str.ofString "@") 431, val := PySem.Value.int 49 346 }, { hash := PySem.PyData.keyHash P (PySem.Str.ofString "@="), key := PySem.Value.str (PySem.Str.ofString "@=") 432, val := PySem.Value.int 50 348 }, { hash := PySem.PyData.keyHash P (PySem.Str.ofString "["), key := PySem.Value.str (PySem.Str.ofString "[") 433, val := PySem.Value.int 9 266 }, { hash := PySem.PyData.keyHash P (PySem.Str.ofString "]"), key := PySem.Value.str (PySem.Str.ofString "]") 434, val := PySem.Value.int 10 268 }, { hash := PySem.PyData.keyHash P (PySem.Str.ofString "^"), key := PySem.Value.str (PySem.Str.ofString "^") 435, val := PySem.Value.int 32 312 }, { hash := PySem.PyData.keyHash P (PySem.Str.ofString "^="), key := PySem.Value.str (PySem.Str.ofString "^=") 436, val := PySem.Value.int 43 334 }, { hash := PySem.PyData.keyHash P (PySem.Str.ofString "{"), key := PySem.Value.str (PySem.Str.ofString "{") 437, val := PySem.Value.int 25 298 }, { hash := PySem.PyData.keyHash P (PySem.Str.ofString "|"), key := PySem.Value.str (PySem.Str.ofString "|") 438, val := PySem.Value.int 18 284 }, { hash := PySem.PyData.keyHash P (PySem.Str.ofString "|="), key := PySem.Value.str (PySem.Str.ofString "|=") 439, val := PySem.Value.int 42 332 }, { hash := PySem.PyData.keyHash P (PySem.Str.ofString "}"), key := PySem.Value.str (PySem.Str.ofString "}") 440, val := PySem.Value.int 26 300 }, { hash := PySem.PyData.keyHash P (PySem.Str.ofString "~"), key := PySem.Value.str (PySem.Str.ofString "~") 441, val := PySem.Value.int 31 310 }] 48 } : Obj) ::
  @Prod.mk Nat Obj (nat_lit 67) ({ cls := PySem.Value.type "tuple", data := PySem.Data.seq (List.toArray ([])) } : Obj) ::
  @Prod.mk Nat Obj (nat_lit 69) ({ cls := PySem.Value.type "tuple", data := PySem.Data.seq (List.toArray (PySem.Value.str (PySem.Str.ofString "x") 460 :: [])) } : Obj) ::
  @Prod.mk Nat Obj (nat_lit 70) ({ cls := PySem.Value.type "tuple", data := PySem.Data.seq (List.toArray ([])) } : Obj) ::
  @Prod.mk Nat Obj (nat_lit 72) ({ cls := PySem.Value.type "code", data := PySem.Data.fields (List.toArray (PySem.Value.str (PySem.Str.ofString "ISNONTERMINAL") 457 :: PySem.Value.str (PySem.Str.ofString "ISNONTERMINAL") 458 :: PySem.Value.str (PySem.Str.ofString "/claim/cut.py") 459 :: PySem.Value.int 110 0 :: PySem.Value.int 1 0 :: PySem.Value.int 0 0 :: PySem.Value.int 0 0 :: PySem.Value.int 3 0 :: PySem.Value.ref 67 :: PySem.Value.bool true :: PySem.Value.int 181 0 :: PySem.Value.ref 68 :: PySem.Value.none :: PySem.Value.ref 69 :: PySem.Value.ref 70 :: PySem.Value.ref 71 :: PySem.Value.int 461 0 :: PySem.Value.int 110 0 :: PySem.Value.str (PySem.Str.ofString "/claim/cut.py") 462 :: [])) } : Obj) ::
  @Prod.mk Nat Obj (nat_lit 73) ({ cls := PySem.Value.type "function", dict := none, slots := #[], data := PySem.Data.func { name := PySem.Str.ofString "ISNONTERMINAL", qualname := PySem.Str.ofString "ISNONTERMINAL", globals := 3, closure := [], defaults := PySem.Value.none, kwdefaults := PySem.Value.none, doc := PySem.Value.none, pyModule := PySem.Value.str (PySem.Str.ofString "cpy313.token") 260, annotations := none, code := PySem.Value.ref 72, closureTuple := PySem.Value.none, builtins := 0, params := lit (parsAt (stAt PySem.Challenge.pw_st0012_01.main.body 56)) (.mk _ _ _ _ _ _ _) rfl, body := PySem.FuncBody.stmts (lit (bodyAt (stAt PySem.Challenge.pw_st0012_01.main.body 56)) [_] rfl), scope := lit (scopeAt (stAt PySem.Challenge.pw_st0012_01.main.body 56)) (.mk _ _ _ _ _) rfl } } : Obj) ::
  @Prod.mk Nat Obj (nat_lit 74) ({ cls := PySem.Value.type "tuple", data := PySem.Data.seq (List.toArray ([])) } : Obj) ::
  @Prod.mk Nat Obj (nat_lit 76) ({ cls := PySem.Value.type "tuple", data := PySem.Data.seq (List.toArray ([])) } : Obj) ::
  @Prod.mk Nat Obj (nat_lit 77) ({ cls := PySem.Value.type "tuple", data := PySem.Data.seq (List.toArray ([])) } : Obj) ::
  @Prod.mk Nat Obj (nat_lit 79) ({ cls := PySem.Value.type "code", data := PySem.Data.fields (List.toArray (PySem.Value.str (PySem.Str.ofString "_law_names") 466 :: PySem.Value.str (PySem.Str.ofString "_law_names") 467 :: PySem.Value.str (PySem.Str.ofString "/claim/cut.py") 468 :: PySem.Value.int 113 0 :: PySem.Value.int 0 0 :: PySem.Value.int 0 0 :: PySem.Value.int 0 0 :: PySem.Value.int 3 0 :: PySem.Value.ref 74 :: PySem.Value.bool true :: PySem.Value.int 181 0 :: PySem.Value.ref 75 :: PySem.Value.none :: PySem.Value.ref 76 :: PySem.Value.ref 77 :: PySem.Value.ref 78 :: PySem.Value.int 469 0 :: PySem.Value.int 113 0 :: PySem.Value.str (PySem.Str.ofString "/claim/cut.py") 470 :: [])) } : Obj) ::
  @Prod.mk Nat Obj (nat_lit 80) ({ cls := PySem.Value.type "function", dict := none, slots := #[], data := PySem.Data.func { name := PySem.Str.ofString "_law_names", qualname := PySem.Str.ofString "_law_names", globals := 3, closure := [], defaults := PySem.Value.none, kwdefaults := PySem.Value.none, doc := PySem.Value.none, pyModule := PySem.Value.str (PySem.Str.ofString "law_st0012_01") 464, annotations := none, code := PySem.Value.ref 79, closureTuple := PySem.Value.none, builtins := 0, params := lit (parsAt (stAt PySem.Challenge.pw_st0012_01.main.body 58)) (.mk _ _ _ _ _ _ _) rfl, body := PySem.FuncBody.stmts (lit (bodyAt (stAt PySem.Challenge.pw_st0012_01.main.body 58)) [_] rfl), scope := lit (scopeAt (stAt PySem.Challenge.pw_st0012_01.main.body 58)) (.mk _ _ _ _ _) rfl } } : Obj) ::
  @Prod.mk Nat Obj (nat_lit 81) ({ cls := PySem.Value.type "tuple", data := PySem.Data.seq (List.toArray ([])) } : Obj) ::
  @Prod.mk Nat Obj (nat_lit 83) ({ cls := PySem.Value.type "tuple", data := PySem.Data.seq (List.toArray (PySem.Value.str (PySem.Str.ofString "text") 475 :: PySem.Value.str (PySem.Str.ofString "stream") 476 :: [])) } : Obj) ::
  @Prod.mk Nat Obj (nat_lit 84) ({ cls := PySem.Value.type "tuple", data := PySem.Data.seq (List.toArray (PySem.Value.str (PySem.Str.ofString "signs") 477 :: [])) } : Obj) ::
  @Prod.mk Nat Obj (nat_lit 86) ({ cls := PySem.Value.type "code", data := PySem.Data.fields (List.toArray (PySem.Value.str (PySem.Str.ofString "_law_lexer") 472 :: PySem.Value.str (PySem.Str.ofString "_law_lexer") 473 :: PySem.Value.str (PySem.Str.ofString "/claim/cut.py") 474 :: PySem.Value.int 115 0 :: PySem.Value.int 1 0 :: PySem.Value.int 0 0 :: PySem.Value.int 0 0 :: PySem.Value.int 3 0 :: PySem.Value.ref 81 :: PySem.Value.bool true :: PySem.Value.int 181 0 :: PySem.Value.ref 82 :: PySem.Value.none :: PySem.Value.ref 83 :: PySem.Value.ref 84 :: PySem.Value.ref 85 :: PySem.Value.int 478 0 :: PySem.Value.int 115 0 :: PySem.Value.str (PySem.Str.ofString "/claim/cut.py") 479 :: [])) } : Obj) ::
  @Prod.mk Nat Obj (nat_lit 87) ({ cls := PySem.Value.type "function", dict := none, slots := #[], data := PySem.Data.func { name := PySem.Str.ofString "_law_lexer", qualname := PySem.Str.ofString "_law_lexer", globals := 3, closure := [], defaults := PySem.Value.none, kwdefaults := PySem.Value.none, doc := PySem.Value.none, pyModule := PySem.Value.str (PySem.Str.ofString "law_st0012_01") 464, annotations := none, code := PySem.Value.ref 86, closureTuple := PySem.Value.none, builtins := 0, params := lit (parsAt (stAt PySem.Challenge.pw_st0012_01.main.body 59)) (.mk _ _ _ _ _ _ _) rfl, body := PySem.FuncBody.stmts (lit (bodyAt (stAt PySem.Challenge.pw_st0012_01.main.body 59)) [_, _, _, _] rfl), scope := lit (scopeAt (stAt PySem.Challenge.pw_st0012_01.main.body 59)) (.mk _ _ _ _ _) rfl } } : Obj) ::
  @Prod.mk Nat Obj (nat_lit 88) ({ cls := PySem.Value.type "tuple", data := PySem.Data.seq (List.toArray ([])) } : Obj) ::
  @Prod.mk Nat Obj (nat_lit 90) ({ cls := PySem.Value.type "tuple", data := PySem.Data.seq (List.toArray (PySem.Value.str (PySem.Str.ofString "code") 484 :: PySem.Value.str (PySem.Str.ofString "prime") 485 :: PySem.Value.str (PySem.Str.ofString "many") 486 :: PySem.Value.str (PySem.Str.ofString "one") 487 :: PySem.Value.str (PySem.Str.ofString "first") 488 :: PySem.Value.str (PySem.Str.ofString "second") 489 :: PySem.Value.str (PySem.Str.ofString "row") 490 :: [])) } : Obj) ::
  @Prod.mk Nat Obj (nat_lit 91) ({ cls := PySem.Value.type "tuple", data := PySem.Data.seq (List.toArray ([])) } : Obj) ::
  @Prod.mk Nat Obj (nat_lit 93) ({ cls := PySem.Value.type "code", data := PySem.Data.fields (List.toArray (PySem.Value.str (PySem.Str.ofString "_law_row") 481 :: PySem.Value.str (PySem.Str.ofString "_law_row") 482 :: PySem.Value.str (PySem.Str.ofString "/claim/cut.py") 483 :: PySem.Value.int 120 0 :: PySem.Value.int 3 0 :: PySem.Value.int 0 0 :: PySem.Value.int 0 0 :: PySem.Value.int 3 0 :: PySem.Value.ref 88 :: PySem.Value.bool true :: PySem.Value.int 181 0 :: PySem.Value.ref 89 :: PySem.Value.none :: PySem.Value.ref 90 :: PySem.Value.ref 91 :: PySem.Value.ref 92 :: PySem.Value.int 491 0 :: PySem.Value.int 120 0 :: PySem.Value.str (PySem.Str.ofString "/claim/cut.py") 492 :: [])) } : Obj) ::
  @Prod.mk Nat Obj (nat_lit 94) ({ cls := PySem.Value.type "function", dict := none, slots := #[], data := PySem.Data.func { name := PySem.Str.ofString "_law_row", qualname := PySem.Str.ofString "_law_row", globals := 3, closure := [], defaults := PySem.Value.none, kwdefaults := PySem.Value.none, doc := PySem.Value.none, pyModule := PySem.Value.str (PySem.Str.ofString "law_st0012_01") 464, annotations := none, code := PySem.Value.ref 93, closureTuple := PySem.Value.none, builtins := 0, params := lit (parsAt (stAt PySem.Challenge.pw_st0012_01.main.body 60)) (.mk _ _ _ _ _ _ _) rfl, body := PySem.FuncBody.stmts (lit (bodyAt (stAt PySem.Challenge.pw_st0012_01.main.body 60)) [_, _, _, _] rfl), scope := lit (scopeAt (stAt PySem.Challenge.pw_st0012_01.main.body 60)) (.mk _ _ _ _ _) rfl } } : Obj) ::
  @Prod.mk Nat Obj (nat_lit 95) ({ cls := PySem.Value.type "tuple", data := PySem.Data.seq (List.toArray ([])) } : Obj) ::
  @Prod.mk Nat Obj (nat_lit 97) ({ cls := PySem.Value.type "tuple", data := PySem.Data.seq (List.toArray (PySem.Value.str (PySem.Str.ofString "number") 497 :: PySem.Value.str (PySem.Str.ofString "prime") 498 :: PySem.Value.str (PySem.Str.ofString "count") 499 :: [])) } : Obj) ::
  @Prod.mk Nat Obj (nat_lit 98) ({ cls := PySem.Value.type "tuple", data := PySem.Data.seq (List.toArray ([])) } : Obj) ::
  @Prod.mk Nat Obj (nat_lit 100) ({ cls := PySem.Value.type "code", data := PySem.Data.fields (List.toArray (PySem.Value.str (PySem.Str.ofString "_law_times") 494 :: PySem.Value.str (PySem.Str.ofString "_law_times") 495 :: PySem.Value.str (PySem.Str.ofString "/claim/cut.py") 496 :: PySem.Value.int 135 0 :: PySem.Value.int 2 0 :: PySem.Value.int 0 0 :: PySem.Value.int 0 0 :: PySem.Value.int 3 0 :: PySem.Value.ref 95 :: PySem.Value.bool true :: PySem.Value.int 181 0 :: PySem.Value.ref 96 :: PySem.Value.none :: PySem.Value.ref 97 :: PySem.Value.ref 98 :: PySem.Value.ref 99 :: PySem.Value.int 500 0 :: PySem.Value.int 135 0 :: PySem.Value.str (PySem.Str.ofString "/claim/cut.py") 501 :: [])) } : Obj) ::
  @Prod.mk Nat Obj (nat_lit 101) ({ cls := PySem.Value.type "function", dict := none, slots := #[], data := PySem.Data.func { name := PySem.Str.ofString "_law_times", qualname := PySem.Str.ofString "_law_times", globals := 3, closure := [], defaults := PySem.Value.none, kwdefaults := PySem.Value.none, doc := PySem.Value.none, pyModule := PySem.Value.str (PySem.Str.ofString "law_st0012_01") 464, annotations := none, code := PySem.Value.ref 100, closureTuple := PySem.Value.none, builtins := 0, params := lit (parsAt (stAt PySem.Challenge.pw_st0012_01.main.body 61)) (.mk _ _ _ _ _ _ _) rfl, body := PySem.FuncBody.stmts (lit (bodyAt (stAt PySem.Challenge.pw_st0012_01.main.body 61)) [_, _, _] rfl), scope := lit (scopeAt (stAt PySem.Challenge.pw_st0012_01.main.body 61)) (.mk _ _ _ _ _) rfl } } : Obj) ::
  @Prod.mk Nat Obj (nat_lit 102) ({ cls := PySem.Value.type "tuple", data := PySem.Data.seq (List.toArray ([])) } : Obj) ::
  @Prod.mk Nat Obj (nat_lit 104) ({ cls := PySem.Value.type "tuple", data := PySem.Data.seq (List.toArray (PySem.Value.str (PySem.Str.ofString "number") 506 :: PySem.Value.str (PySem.Str.ofString "sizes") 507 :: PySem.Value.str (PySem.Str.ofString "figures") 508 :: PySem.Value.str (PySem.Str.ofString "size") 509 :: PySem.Value.str (PySem.Str.ofString "figure") 510 :: [])) } : Obj) ::
  @Prod.mk Nat Obj (nat_lit 105) ({ cls := PySem.Value.type "tuple", data := PySem.Data.seq (List.toArray ([])) } : Obj) ::
  @Prod.mk Nat Obj (nat_lit 107) ({ cls := PySem.Value.type "code", data := PySem.Data.fields (List.toArray (PySem.Value.str (PySem.Str.ofString "_law_figures") 503 :: PySem.Value.str (PySem.Str.ofString "_law_figures") 504 :: PySem.Value.str (PySem.Str.ofString "/claim/cut.py") 505 :: PySem.Value.int 141 0 :: PySem.Value.int 2 0 :: PySem.Value.int 0 0 :: PySem.Value.int 0 0 :: PySem.Value.int 3 0 :: PySem.Value.ref 102 :: PySem.Value.bool true :: PySem.Value.int 181 0 :: PySem.Value.ref 103 :: PySem.Value.none :: PySem.Value.ref 104 :: PySem.Value.ref 105 :: PySem.Value.ref 106 :: PySem.Value.int 511 0 :: PySem.Value.int 141 0 :: PySem.Value.str (PySem.Str.ofString "/claim/cut.py") 512 :: [])) } : Obj) ::
  @Prod.mk Nat Obj (nat_lit 108) ({ cls := PySem.Value.type "function", dict := none, slots := #[], data := PySem.Data.func { name := PySem.Str.ofString "_law_figures", qualname := PySem.Str.ofString "_law_figures", globals := 3, closure := [], defaults := PySem.Value.none, kwdefaults := PySem.Value.none, doc := PySem.Value.none, pyModule := PySem.Value.str (PySem.Str.ofString "law_st0012_01") 464, annotations := none, code := PySem.Value.ref 107, closureTuple := PySem.Value.none, builtins := 0, params := lit (parsAt (stAt PySem.Challenge.pw_st0012_01.main.body 62)) (.mk _ _ _ _ _ _ _) rfl, body := PySem.FuncBody.stmts (lit (bodyAt (stAt PySem.Challenge.pw_st0012_01.main.body 62)) [_, _, _] rfl), scope := lit (scopeAt (stAt PySem.Challenge.pw_st0012_01.main.body 62)) (.mk _ _ _ _ _) rfl } } : Obj) ::
  @Prod.mk Nat Obj (nat_lit 109) ({ cls := PySem.Value.type "tuple", data := PySem.Data.seq (List.toArray ([])) } : Obj) ::
  @Prod.mk Nat Obj (nat_lit 112) ({ cls := PySem.Value.type "code", data := PySem.Data.fields (List.toArray (PySem.Value.str (PySem.Str.ofString "_law_text") 514 :: PySem.Value.str (PySem.Str.ofString "_law_text") 515 :: PySem.Value.str (PySem.Str.ofString "/claim/cut.py") 516 :: PySem.Value.int 147 0 :: PySem.Value.int 4 0 :: PySem.Value.int 0 0 :: PySem.Value.int 0 0 :: PySem.Value.int 3 0 :: PySem.Value.ref 109 :: PySem.Value.bool true :: PySem.Value.int 181 0 :: PySem.Value.ref 110 :: PySem.Value.none :: PySem.Value.none :: PySem.Value.none :: PySem.Value.ref 111 :: PySem.Value.int 517 0 :: PySem.Value.int 147 0 :: PySem.Value.str (PySem.Str.ofString "/claim/cut.py") 518 :: [])) } : Obj) ::
  @Prod.mk Nat Obj (nat_lit 113) ({ cls := PySem.Value.type "function", dict := none, slots := #[], data := PySem.Data.func { name := PySem.Str.ofString "_law_text", qualname := PySem.Str.ofString "_law_text", globals := 3, closure := [], defaults := PySem.Value.none, kwdefaults := PySem.Value.none, doc := PySem.Value.none, pyModule := PySem.Value.str (PySem.Str.ofString "law_st0012_01") 464, annotations := none, code := PySem.Value.ref 112, closureTuple := PySem.Value.none, builtins := 0, params := lit (parsAt (stAt PySem.Challenge.pw_st0012_01.main.body 63)) (.mk _ _ _ _ _ _ _) rfl, body := PySem.FuncBody.stmts (lit (bodyAt (stAt PySem.Challenge.pw_st0012_01.main.body 63)) [_, _, _, _] rfl), scope := lit (scopeAt (stAt PySem.Challenge.pw_st0012_01.main.body 63)) (.mk _ _ _ _ _) rfl } } : Obj) ::
  @Prod.mk Nat Obj (nat_lit 114) ({ cls := PySem.Value.type "tuple", data := PySem.Data.seq (List.toArray ([])) } : Obj) ::
  @Prod.mk Nat Obj (nat_lit 117) ({ cls := PySem.Value.type "code", data := PySem.Data.fields (List.toArray (PySem.Value.str (PySem.Str.ofString "law") 520 :: PySem.Value.str (PySem.Str.ofString "law") 521 :: PySem.Value.str (PySem.Str.ofString "/claim/cut.py") 522 :: PySem.Value.int 160 0 :: PySem.Value.int 1 0 :: PySem.Value.int 0 0 :: PySem.Value.int 0 0 :: PySem.Value.int 3 0 :: PySem.Value.ref 114 :: PySem.Value.bool true :: PySem.Value.int 181 0 :: PySem.Value.ref 115 :: PySem.Value.none :: PySem.Value.none :: PySem.Value.none :: PySem.Value.ref 116 :: PySem.Value.int 523 0 :: PySem.Value.int 160 0 :: PySem.Value.str (PySem.Str.ofString "/claim/cut.py") 524 :: [])) } : Obj) ::
  @Prod.mk Nat Obj (nat_lit 118) ({ cls := PySem.Value.type "function", dict := none, slots := #[], data := PySem.Data.func { name := PySem.Str.ofString "law", qualname := PySem.Str.ofString "law", globals := 3, closure := [], defaults := PySem.Value.none, kwdefaults := PySem.Value.none, doc := PySem.Value.none, pyModule := PySem.Value.str (PySem.Str.ofString "law_st0012_01") 464, annotations := none, code := PySem.Value.ref 117, closureTuple := PySem.Value.none, builtins := 0, params := lit (parsAt (stAt PySem.Challenge.pw_st0012_01.main.body 64)) (.mk _ _ _ _ _ _ _) rfl, body := PySem.FuncBody.stmts (lit (bodyAt (stAt PySem.Challenge.pw_st0012_01.main.body 64)) [_, _, _, _, _, _, _, _, _, _, _, _, _, _, _, _, _, _, _, _, _, _, _, _, _, _, _] rfl), scope := lit (scopeAt (stAt PySem.Challenge.pw_st0012_01.main.body 64)) (.mk _ _ _ _ _) rfl } } : Obj) ::
  ([] : List (Nat × Obj))
/-- what the walk through the law has to show -/
noncomputable def Walk : Prop := WalkO qv [Str.ofString "EXACT_TOKEN_TYPES"] (XL qv []) (kmHook hd.heap_39 [2, 3, 6, 15, 17, 18, 20, 21, 29, 31, 32, 34, 35, 36, 38, 39, 41, 42, 43, 45, 46, 48, 49, 50, 52, 53, 55, 56, 57, 58, 59, 60, 61, 64, 67, 69, 70, 72, 73, 74, 76, 77, 79, 80, 81, 83, 84, 86, 87, 88, 90, 91, 93, 94, 95, 97, 98, 100, 101, 102, 104, 105, 107, 108, 109, 112, 113, 114, 117, 118] (fun _ => by kernel_rfl) [82]).says Mine.rwv.row.toRowW
    (DefRec.mk (Str.ofString "law") (lit (parsAt (stAt PySem.Challenge.pw_st0012_01.main.body 64)) (.mk _ _ _ _ _ _ _) rfl) (lit (bodyAt (stAt PySem.Challenge.pw_st0012_01.main.body 64)) [_, _, _, _, _, _, _, _, _, _, _, _, _, _, _, _, _, _, _, _, _, _, _, _, _, _, _] rfl) (lit (scopeAt (stAt PySem.Challenge.pw_st0012_01.main.body 64)) (.mk _ _ _ _ _) rfl) ⟨160, 0, 197, 47⟩) [] fun f vs => PySem.call f vs
theorem top_off : True := by
  w_top off
  trivial
end Mine
end
section
open PySem PySem.W PyProof.Rows PySem.Calls
set_option Elab.async false
set_option compiler.extract_closed false
namespace Mine
set_option maxRecDepth 100000

noncomputable abbrev ciObj (f snt : Value) (b : Bool) : Obj := { cls := .type "callable_iterator", data := .fields #[f, snt, .bool b] }

theorem slot_ci_next : Slot "callable_iterator" "__next__" "callable_iterator.__next__" :=
  .of (owner := "callable_iterator") (n := "__next__") (by rw [typeLookup_type, builtinLookup_eq_fast]; kernel_rfl) (by decide +kernel) (by decide +kernel) (by decide +kernel)
    (by first | exact .inl (by decide +kernel) | exact .inr (by decide +kernel)) (by rw [isSubtype_type]; kernel_rfl)
theorem entry_ci_next : entryFor table "callable_iterator.__next__" = some Builtin.«callable_iterator.__next__» := entryFor_of_tree (by kernel_rfl)
theorem args_ci_next (a : Value) : argsOk "callable_iterator.__next__" ⟨[a], []⟩ := by unfold argsOk; kernel_rfl
theorem slot_ci_iter : Slot "callable_iterator" "__iter__" "callable_iterator.__iter__" :=
  .of (owner := "callable_iterator") (n := "__iter__") (by rw [typeLookup_type, builtinLookup_eq_fast]; kernel_rfl) (by decide +kernel) (by decide +kernel) (by decide +kernel)
    (by first | exact .inl (by decide +kernel) | exact .inr (by decide +kernel)) (by rw [isSubtype_type]; kernel_rfl)
theorem entry_ci_iter : entryFor table "callable_iterator.__iter__" = some Builtin.«dict_keyiterator.__iter__» :=
  entryFor_alias (id' := "dict_keyiterator.__iter__") (by kernel_rfl) rfl (by decide +kernel) (by kernel_rfl)
theorem args_ci_iter (a : Value) : argsOk "callable_iterator.__iter__" ⟨[a], []⟩ := by unfold argsOk; kernel_rfl
theorem kind_iter : builtinKind "iter" = none := by decide +kernel
theorem plain_iter : plainId "iter" = true := by decide +kernel
theorem entry_iter : entryFor table "iter" = some Builtin.«iter» := entryFor_of_tree (by kernel_rfl)
theorem args_iter2 (a b : Value) : argsOk "iter" ⟨[a, b], []⟩ := by unfold argsOk; kernel_rfl
theorem meth_call : typeLookup (.type "method") "__call__" = pure (some (.builtin "method.__call__")) := by rw [typeLookup_type, builtinLookup_eq_fast]; kernel_rfl

section
variable {prog : Program} {w : World} {A : Around} {E : Value → Shared → Prop} {s : Shared}

theorem pyIter_ci {it : Addr} {f snt : Value} {b : Bool} {Q : Value → Shared → Prop} (hi : s.heap.get? it = some (ciObj f snt b)) (h : Q (.ref it) s) :
    wpAny (model prog w) A (pyIter (.ref it)) Q E s := by
  have hT : s.TypeIs (.ref it) "callable_iterator" := ⟨_, hi, rfl⟩
  refine wpAny_pyIter_slot hT slot_ci_iter (wpAny_call_entry slot_ci_iter hT entry_ci_iter ?_ (args_ci_iter _))
  show wpAny _ _ (ret (.ref it)) _ _ s
  exact wpAny_pure ⟨_, rfl, "callable_iterator", _, hT, slot_ci_next.lookup, h⟩

theorem call_iter2 {q : Addr} {f self snt : Value} {Q : Value → Shared → Prop} (hq : s.heap.get? q = some (methodObj f self))
    (h : Q (.ref s.heap.objs.size) { s with heap := s.heap.push (ciObj (.ref q) snt false) }) :
    wpAny (model prog w) A (call (.builtin "iter") [.ref q, snt]) Q E s := by
  refine call_function_entry kind_iter plain_iter entry_iter (args_iter2 _ _) ?_
  show wpAny _ _ (do
    if (← specialOf (.ref q) "__call__").isNone then rule "iter.not-callable"; raiseError "TypeError" "iter(v, w): v must be callable"
    rule "iter.sentinel"; ret (← newFields "callable_iterator" [.ref q, snt, .bool false])) _ _ s
  refine wpAny_bind (wpAny_specialOf (T := "method") ⟨_, hq, rfl⟩ meth_call ?_)
  simp only [Option.isNone_some, Bool.false_eq_true, if_false]
  refine wpAny_bind (wpAny_rule (wpAny_bind ?_))
  exact wpAny_newObj_type (wpAny_pure ⟨_, rfl, h⟩) (by size_fits)

theorem borrows_meth {q f : Addr} {self : Value} {fo : Obj} {fd : FuncData} {Q : Bool → Shared → Prop} (hq : s.heap.get? q = some (methodObj (.ref f) self)) (hf : s.heap.get? f = some fo) (hfd : fo.data = .func fd) (h : Q true s) :
    wpAny (model prog w) A (borrowsExactly (.ref q)) Q E s := by
  unfold borrowsExactly
  refine wpAny_bind (wpAny_load hq ?_)
  have e : ((Value.type "method" == Value.type "method") = true) := by decide
  simp only [e, if_true]
  show wpAny _ _ (load f >>= _) _ _ s
  refine wpAny_bind (wpAny_load hf ?_)
  rw [hfd]
  exact wpAny_pure h

theorem wpAny_callBorrowed {f : Value} {pos : List Value} {Q : Value → Shared → Prop}
    (hc : codeAny (model prog w) A (.call f ⟨pos, []⟩) (fun r s' => match r with | .ok (.ret v) => Q v s' | .ok _ => False | .error e => E e s') s) :
    wpAny (model prog w) A (callBorrowed f pos) Q E s := by
  refine X.x_call (hd := none) (codeAny_mono (show codeAny (model prog w) (A.mark none) _ _ s from hc) fun r s' h => ?_) (by intro x; cases x)
  match r with
  | .ok (.ret v) => exact wpAny_pure h
  | .ok .next => exact h.elim
  | .ok .brk => exact h.elim
  | .ok .cont => exact h.elim
  | .error e => exact wpAny_throw h

theorem pyNext_ci_item {it q f : Addr} {self : Value} {snt : Str} {t : Tok} {fo : Obj} {fd : FuncData} {Q : Option Value → Shared → Prop}
    (hi : s.heap.get? it = some (ciObj (.ref q) (.str snt t) false)) (hq : s.heap.get? q = some (methodObj (.ref f) self)) (hf : s.heap.get? f = some fo) (hfd : fo.data = .func fd)
    (h : codeAny (model prog w) A.in1 (.call (.ref q) ⟨[], []⟩) (fun r s' => ∃ c u, r = .ok (.ret (.str c u)) ∧ snt ≠ c ∧ s'.heap.get? it = some (ciObj (.ref q) (.str snt t) false) ∧ Q (some (.str c u)) s') s) :
    wpAny (model prog w) A (pyNext (.ref it)) Q E s := by
  have hT : s.TypeIs (.ref it) "callable_iterator" := ⟨_, hi, rfl⟩
  unfold pyNext
  refine wpAny_bind (wpAny_attempt (wpAny_callSpecial?_slot (name := Str.ofString "__next__") hT slot_ci_next
    (wpAny_call_entry slot_ci_next hT entry_ci_next ?_ (args_ci_next _))))
  show wpAny _ _ (field (.ref it) 2 >>= _) _ _ s
  refine wpAny_bind (wpAny_field hi rfl (x := .bool false) rfl ?_)
  rw [if_neg (by decide)]
  show wpAny _ _ (field (.ref it) 0 >>= _) _ _ s
  refine wpAny_bind (wpAny_field hi rfl (x := .ref q) rfl ?_)
  refine wpAny_bind (wpAny_attempt ?_)
  unfold callOutOfASlot
  refine wpAny_bind (borrows_meth hq hf hfd ?_)
  simp only [if_true]
  refine wpAny_callBorrowed (codeAny_mono h fun r s' ⟨c, u, hr, hne, hi', hQ⟩ => ?_)
  subst hr
  dsimp only
  refine wpAny_bind (wpAny_field hi' rfl (x := .bool false) rfl ?_)
  rw [if_neg (by decide)]
  refine wpAny_bind (wpAny_field hi' rfl (x := .str snt t) rfl ?_)
  refine wpAny_bind (wpAny_holding (wpAny_eqBool_str ?_))
  rw [decide_eq_false hne]
  simp only [Bool.not_false, if_true]
  exact wpAny_bind (wpAny_pure (wpAny_pure ⟨_, rfl, wpAny_pure hQ⟩))

theorem letsGo_meth {q f : Addr} {self : Value} {fo : Obj} {fd : FuncData} {who : String} {bz : Code → Bool} {Q : Unit → Shared → Prop} (hq : s.heap.get? q = some (methodObj (.ref f) self)) (hf : s.heap.get? f = some fo) (hfd : fo.data = .func fd) (h : Q () s) :
    wpAny (model prog w) A (slotLetsGo who (.ref q) bz) Q E s := by
  unfold slotLetsGo
  refine wpAny_bind (borrows_meth hq hf hfd ?_)
  simp only [if_true]
  exact wpAny_pure h

theorem pyNext_ci_end {it q f : Addr} {self : Value} {snt : Str} {t : Tok} {fo : Obj} {fd : FuncData} {Q : Option Value → Shared → Prop} (hh : A.handled = none)
    (hi : s.heap.get? it = some (ciObj (.ref q) (.str snt t) false)) (hq : s.heap.get? q = some (methodObj (.ref f) self)) (hf : s.heap.get? f = some fo) (hfd : fo.data = .func fd)
    (h : codeAny (model prog w) A.in1 (.call (.ref q) ⟨[], []⟩) (fun r s' => ∃ u, r = .ok (.ret (.str snt u)) ∧ s'.heap.get? it = some (ciObj (.ref q) (.str snt t) false) ∧ s'.heap.get? q = some (methodObj (.ref f) self) ∧ s'.heap.get? f = some fo ∧
      ∀ h', Heap.ExtBut it s'.heap h' → Q none { s' with heap := h' }) s) :
    wpAny (model prog w) A (pyNext (.ref it)) Q E s := by
  have hT : s.TypeIs (.ref it) "callable_iterator" := ⟨_, hi, rfl⟩
  unfold pyNext
  refine wpAny_bind (wpAny_attempt (wpAny_callSpecial?_slot (name := Str.ofString "__next__") hT slot_ci_next
    (wpAny_call_entry slot_ci_next hT entry_ci_next ?_ (args_ci_next _))))
  show wpAny _ _ (field (.ref it) 2 >>= _) _ _ s
  refine wpAny_bind (wpAny_field hi rfl (x := .bool false) rfl ?_)
  rw [if_neg (by decide)]
  show wpAny _ _ (field (.ref it) 0 >>= _) _ _ s
  refine wpAny_bind (wpAny_field hi rfl (x := .ref q) rfl ?_)
  refine wpAny_bind (wpAny_attempt ?_)
  unfold callOutOfASlot
  refine wpAny_bind (borrows_meth hq hf hfd ?_)
  simp only [if_true]
  refine wpAny_callBorrowed (codeAny_mono h fun r s' ⟨u, hr, hi', hq', hf', hQ⟩ => ?_)
  subst hr
  dsimp only
  refine wpAny_bind (wpAny_field hi' rfl (x := .bool false) rfl ?_)
  rw [if_neg (by decide)]
  refine wpAny_bind (wpAny_field hi' rfl (x := .str snt t) rfl ?_)
  refine wpAny_bind (wpAny_holding (wpAny_eqBool_str ?_))
  rw [decide_eq_true rfl]
  simp only [Bool.not_true, Bool.false_eq_true, if_false]
  refine wpAny_bind (wpAny_rule (wpAny_bind ?_))
  show wpAny _ _ (field (.ref it) 0 >>= fun old => slotLetsGo "callable_iterator.__next__" old _ >>= fun _ => setField (.ref it) 0 .none >>= fun _ => setField (.ref it) 1 .none >>= fun _ => setField (.ref it) 2 (.bool true)) _ _ _
  refine wpAny_bind (wpAny_field hi' rfl (x := .ref q) rfl ?_)
  refine wpAny_bind (letsGo_meth hq' hf' hfd ?_)
  refine wpAny_bind (wpAny_setField hi' rfl (by simp) ?_)
  refine wpAny_bind (wpAny_setField (Heap.get?_update_self _ hi' rfl) rfl (by simp) ?_)
  refine wpAny_setField (Heap.get?_update_self _ (Heap.get?_update_self _ hi' rfl) rfl) rfl (by simp) ?_
  show wpAny _ _ (newExc (.type "StopIteration") [] >>= _) _ _ _
  refine wpAny_bind ?_
  simp only [newExc, newTuple]
  refine wpAny_bind (wpAny_newObj_type ?_ (by size_fits))
  refine wpAny_bind (m := firstArgMember _ _) (wpAny_of_eq (a := Value.none) (by first | rfl | (simp only [firstArgMember]; rfl)) ?_)
  refine wpAny_newObj_type ?_ (by size_fits)
  simp only [raiseNew]
  refine wpAny_bind (wpAny_handled ?_)
  rw [show A.in1.handled = none from hh]
  refine wpAny_bind (wpAny_pure (wpAny_throw ?_))
  refine wpAny_bind (wpAny_isInstance (T := "StopIteration") (b := true) ⟨_, Heap.get?_push_size _ rfl, rfl⟩ isSubtype_stop ?_)
  exact wpAny_pure (hQ _ ((((((Heap.SameBut.update ..).trans (Heap.SameBut.update ..)).trans (Heap.SameBut.update ..)).extBut).push _).push _))
end
end Mine
end
section
open PySem PySem.W PyProof.Rows PySem.Calls PySem.Spec
set_option Elab.async false
set_option compiler.extract_closed false
namespace Mine
set_option maxRecDepth 100000

section
variable {prog : Program} {w : World} {A₀ A : Around} {s : Shared} {base h₀ : Heap} {outer : List Env} {L : Addr} {m mg mb : Str → Option Value} {env : Env} {news : List (Addr × Obj)} {K : Frag} {p : Program} {loose : List Str} {mean : ExcName → Option Value}
  {R : Result → Shared → Prop} {name qual : Str} {params : Arguments} {body : List Stmt} {scope : Scope} {cl : List (Str × Addr)} {dV kV doc pm cdv ct : Value} {an : Option Addr} {fo : Obj} {f : Addr} {args : Args} {binds : List (Str × Value)}

theorem my_enter (B : Below A₀ base outer h₀) (F : Fr h₀ L s.heap m) (X₀ : K.In h₀) (N : News h₀ L s.heap news) (T : Top p loose mean mg mb h₀) (hA : A.frames = some (env :: outer)) (hf : env.frame = some L) (hke : env.scope.kind = .function)
    (ho : s.heap.get? f = some fo) (hd : fo.data = .func (fnX name qual params body scope cl dV kV doc pm an cdv ct)) (hcd : s.heap.CodeRec cdv qual) (hroom : A.depth < recursionLimit)
    (hbind : BindsTo s (fnX name qual params body scope cl dV kV doc pm an cdv ct) args binds) (hloc : ∀ y ∈ binds, scope.names.lookup y.1 = some .local)
    (h : ∀ g L' h₁, (∀ b o, s.heap.get? b = some o → b ∉ news.map (·.1) → g.get? b = some o) → Fr g L' h₁ (fun y => binds.reverse.lookup y) → News g L' h₁ news → Below A base (env :: outer) g → K.In g → Top p loose mean mg mb g → (∀ p ∈ news, p.1 < L') →
      wpAny (model prog w) (A.deeper (envX qual scope L' f cdv cl)) (execs body (envX qual scope L' f cdv cl))
        (fun fl s' => R (.ok (.ret (match fl with | .ret v => v | _ => .none))) s') (fun _ _ => False)
        { s with heap := h₁, toks := s.toks + binds.length })
    (hcell : ∀ x ∈ scope.names, x.2 ≠ .cell) (hco : scope.isCoroutine = false := by rfl) (hgen : scope.isGenerator = false := by rfl) (hk : scope.kind = .function := by rfl) : codeAny (model prog w) A (.call (.ref f) args) R s := by
  obtain ⟨_, BG, st, _⟩ := groundX (R := R) B F N hA hf hke
  refine codeAny_call_def (fd := fnX name qual params body scope cl dV kV doc pm an cdv ct) (body := body) (binds := binds) hroom ho hd (T.nolimit.keeps F.keep) hcd rfl hbind hcell hloc (fun h₁ hns hk₁ => ?_) hco hgen hk
  exact wpAny_noRaise <| h _ s.heap.objs.size h₁ (fun b o e hb => hideAll_get _ e hb) ⟨hns, fun b o e => hk₁ b o (of_hideAll _ e), Nat.le_of_eq (hideAll_size _ _)⟩
    (fun p hp => ⟨hk₁ _ _ (N p hp).1, Nat.ne_of_lt (Heap.lt_size (N p hp).1), hideAll_none _ (List.mem_map_of_mem hp)⟩) BG (X₀.keeps st) (T.keeps st) (fun p hp => Heap.lt_size (N p hp).1)

theorem my_enterC (B : Below A₀ base outer h₀) (F : Fr h₀ L s.heap m) (X₀ : K.In h₀) (N : News h₀ L s.heap news) (T : Top p loose mean mg mb h₀) (hA : A.frames = some (env :: outer)) (hf : env.frame = some L) (hke : env.scope.kind = .function)
    (ho : s.heap.get? f = some fo) (hd : fo.data = .func (fnX name qual params body scope [] dV kV doc pm an cdv ct)) (hcd : s.heap.CodeRec cdv qual) (hroom : A.depth < recursionLimit)
    (hbind : BindsTo s (fnX name qual params body scope [] dV kV doc pm an cdv ct) args binds)
    (hkind : ∀ n, ∀ x ∈ binds, scope.names.lookup x.1 = some .local ∨ (scope.names.lookup x.1 = some .cell ∧ ((cellsFrom n scope.names []).lookup x.1).isSome = true))
    (hnd : ((cellsFrom 0 scope.names []).map (·.1)).Nodup)
    (h : ∀ g L' h₁ tk cells, (∀ b o, s.heap.get? b = some o → b ∉ news.map (·.1) → g.get? b = some o) → Fr g L' h₁ (bindL (envOfC qual scope L' f cdv).kindOf binds fun _ => none) → News g L' h₁ (cells ++ news) →
      CellsAre (bindC (envOfC qual scope L' f cdv).kindOf binds fun _ => none) (cellsFrom (L' + 1) scope.names []) cells → Below A base (env :: outer) g → K.In g → Top p loose mean mg mb g → (∀ p ∈ news, p.1 < L') →
      wpAny (model prog w) (A.deeper (envOfC qual scope L' f cdv)) (execs body (envOfC qual scope L' f cdv))
        (fun fl s' => R (.ok (.ret (match fl with | .ret v => v | _ => .none))) s') (fun _ _ => False)
        { s with heap := h₁, toks := tk })
    (hco : scope.isCoroutine = false := by rfl) (hgen : scope.isGenerator = false := by rfl) (hk : scope.kind = .function := by rfl) : codeAny (model prog w) A (.call (.ref f) args) R s := by
  obtain ⟨_, BG, st, _⟩ := groundX (R := R) B F N hA hf hke
  refine codeAny_call_function hroom ho hd hco hgen rfl hcd (hbind _ _ _ _ ?_)
  refine wpAny_newFunctionEnv_cells hk (hkind _) fun env' he s' x => ?_
  subst he
  refine ⟨(T.nolimit.keeps F.keep).keeps x.toInCall.keep, codeAny_func ?_⟩
  obtain ⟨h₁, tk, rfl, _⟩ := x.done
  have hk₁ := x.toInCall.keep
  obtain ⟨cells, NC, Y⟩ := Cl.news (h₀ := s.heap) (Nat.le_refl _) fun n c hm => ⟨x.cell n c (lookup_of_mem_nodup (cellsFrom_names scope.names 0 (s.heap.objs.size + 1) [] [] rfl ▸ hnd) hm), x.above n c hm⟩
  refine wpAny_noRaise <| h _ s.heap.objs.size h₁ tk cells (fun b o e hb => hideAll_get _ e hb) ⟨x.toInCall.ns, fun b o e => hk₁ b o (of_hideAll _ e), Nat.le_of_eq (hideAll_size _ _)⟩ (fun p hp => ?_) Y BG (X₀.keeps st) (T.keeps st) (fun p hp => Heap.lt_size (N p hp).1)
  rcases List.mem_append.mp hp with hp | hp
  · refine ⟨(NC p hp).1, (NC p hp).2.1, ?_⟩
    cases q : (hideAll s.heap (news.map (·.1))).get? p.1 with
    | none => rfl
    | some o => have := of_hideAll _ q; rw [(NC p hp).2.2] at this; cases this
  · exact ⟨hk₁ _ _ (N p hp).1, Nat.ne_of_lt (Heap.lt_size (N p hp).1), hideAll_none _ (List.mem_map_of_mem hp)⟩
end

/-- a turn's end: the state stands again, with less to come -/
noncomputable def Again (I : Nat → Shared → Prop) (n : Nat) (s : Shared) : Prop := ∃ m, m < n ∧ I m s
section
variable {prog : Program} {w : World} {A : Around} {s : Shared} {env : Env}
theorem for_ci {it : Addr} {x : Str} {px pos : Pos} {iter : Expr} {body : List Stmt} {Q : Flow → Shared → Prop} (I : Nat → Shared → Prop) (n : Nat)
    (hiter : wpAny (model prog w) A (eval iter env) (fun v s₁ => wpAny (model prog w) A (pyIter v) (fun it' s₂ => it' = .ref it ∧ I n s₂) (fun _ _ => False) s₁) (fun _ _ => False) s)
    (turn : ∀ n s, I n s → wpAny (model prog w) A (pyNext (.ref it)) (fun r s₁ => match r with
      | none => Q .next s₁
      | some v => wpAny (model prog w) A (storeName env x v) (fun _ s₂ => wpAny (model prog w) A (execs body env) (fun f s₃ => match f with
          | .next | .cont => Again I n s₃
          | .brk => Q .next s₃
          | .ret v => Q (.ret v) s₃) (fun _ _ => False) s₂) (fun _ _ => False) s₁) (fun _ _ => False) s)
    (hs : ∀ x, foldedSetIterable iter env x = pure x := by intro _; rfl) :
    wpAny (model prog w) A (exec (.For (.Name x px) iter body [] pos) env) Q (fun _ _ => False) s := by
  refine wpAny_For (wpAny_mono hiter (fun v s₁ h₁ => wpAny_mono h₁ (fun it' s₂ h₂ => ?_) fun _ _ e => e) fun _ _ e => e) hs
  obtain ⟨rfl, hI⟩ := h₂
  refine codeAny_forLoop I (fun k s' hk => wpAny_mono (turn k s' hk) (fun r s₃ h₃ => ?_) fun _ _ e => e.elim) n hI
  cases r with
  | none => exact wpAny_execs_nil h₃
  | some v =>
    refine wpAny_assign_Name (wpAny_mono h₃ (fun _ s₄ h₄ => wpAny_mono h₄ (fun f s₅ h₅ => ?_) fun _ _ e => e.elim) fun _ _ e => e.elim)
    cases f <;> exact h₅
end

section
variable {prog : Program} {w : World} {A : Around} {s : Shared} {env : Env}
theorem while_m {test : Expr} {body : List Stmt} {pos : Pos} {Q : Flow → Shared → Prop} (I : Nat → Shared → Prop) (n : Nat) (h : I n s)
    (turn : ∀ n s, I n s → wpAny (model prog w) A (isTrue test env (eval test env)) (fun b s₁ =>
      if b = true then wpAny (model prog w) A (execs body env) (fun f s₂ => match f with
        | .next | .cont => Again I n s₂
        | .brk => Q .next s₂
        | .ret v => Q (.ret v) s₂) (fun _ _ => False) s₁ else Q .next s₁) (fun _ _ => False) s) :
    wpAny (model prog w) A (exec (.While test body [] pos) env) Q (fun _ _ => False) s := by
  refine wpAny_While (codeAny_whileLoop I (fun k s' hk => wpAny_mono (turn k s' hk) (fun b s₁ h₁ => ?_) fun _ _ e => e.elim) n h)
  cases b with
  | false => simp only [Bool.false_eq_true, if_false] at h₁ ⊢; exact wpAny_execs_nil h₁
  | true =>
    simp only [if_true] at h₁ ⊢
    refine wpAny_mono h₁ (fun f s₂ h₂ => ?_) fun _ _ e => e.elim
    cases f <;> exact h₂
end

/-- one-sign texts, one after the other -/
inductive Signs : List Value → List Nat → Prop
  | nil : Signs [] []
  | cons (c : Nat) (t : Tok) {vs cs} : Signs vs cs → Signs (.str ⟨#[c]⟩ t :: vs) (c :: cs)

theorem Signs.length {vs : List Value} {cs : List Nat} (h : Signs vs cs) : vs.length = cs.length := by
  induction h with
  | nil => rfl
  | cons c t _ ih => rw [List.length_cons, List.length_cons, ih]
theorem Signs.of (x : Str) : ∀ (cs : List Nat) (vs : List Value) (k : Nat), vs.length = cs.length → (∀ (j : Nat) (v : Value), vs[j]? = some v → ∃ c u, cs[j]? = some c ∧ v = Value.str ⟨#[c]⟩ u) → Signs vs cs
  | [], [], _, _, _ => .nil
  | c :: cs, v :: vs, k, hl, h => by
    obtain ⟨c', u, e1, e2⟩ := h 0 v rfl
    cases e1
    subst e2
    exact .cons c u (Signs.of x cs vs k (by simpa using hl) fun j v hj => by simpa using h (j + 1) v (by simpa using hj))
theorem Signs.snoc {vs : List Value} {cs : List Nat} : ∀ {c : Nat}, Signs vs (cs ++ [c]) → ∃ us u, vs = us ++ [.str ⟨#[c]⟩ u] ∧ Signs us cs := by
  induction cs generalizing vs with
  | nil =>
    intro c h
    cases h with
    | cons c t h => cases h; exact ⟨[], t, rfl, .nil⟩
  | cons d cs ih =>
    intro c h
    cases h with
    | cons d t h =>
      obtain ⟨us, u, e, hs⟩ := ih h
      exact ⟨_ :: us, u, by rw [e]; rfl, .cons d t hs⟩

section
variable {prog : Program} {w : World} {A : Around} {E : Value → Shared → Prop} {s : Shared} {h₀ : Heap} {L : Addr} {m : Str → Option Value} {news : List (Addr × Obj)}
theorem listStr_K {x : Str} {t : Tok} {Q : Value → Shared → Prop} (hh : A.handled = none) (F : Fr h₀ L s.heap m) (N : News h₀ L s.heap news) (hn : x.cps.size ≤ sizeLine)
    (h : ∀ l h' tk vs n, Fr h₀ L h' m → News h₀ L h' ((l, listOf vs.toArray n) :: news) → (∀ p ∈ news, p.1 < l) → Signs vs x.cps.toList → Q (.ref l) { s with heap := h', toks := tk }) :
    wpAny (model prog w) A (call (.type "list") [.str x t]) Q E s := by
  refine call_list_str hh x t (fun h' tk acc' c' hk hS hi => ?_) hn
  have fr : Fr h₀ L h' m := ⟨(let ⟨oL, es, ep, hL, r⟩ := F.ns; ⟨oL, es, ep, hk _ _ hL, r⟩), fun b o e => hk b o (F.keep b o e), F.above⟩
  have hs : Signs acc'.toList x.cps.toList := by
    refine Signs.of x _ _ 0 (by have := hi.1; simpa using this) fun j v hj => ?_
    obtain ⟨c, u, e1, e2⟩ := hi.2 j v (by simpa using hj)
    exact ⟨c, u, by simpa using e1, e2⟩
  refine h _ h' tk acc'.toList c' fr (fun p hp => ?_) (fun p hp => Heap.lt_size (N p hp).1) hs
  rcases List.mem_cons.mp hp with rfl | hp
  · refine ⟨by simpa using hS, ?_, ?_⟩
    · obtain ⟨oL, _, _, hL, _⟩ := F.ns
      exact Nat.ne_of_gt (Heap.lt_size hL)
    · cases q : h₀.get? s.heap.objs.size with
      | none => rfl
      | some o => exact absurd (Heap.lt_size (F.keep _ _ q)) (Nat.lt_irrefl _)
  · exact ⟨hk _ _ (N p hp).1, (N p hp).2⟩
end
end Mine
end
section
open PySem PySem.W PyProof.Rows PySem.Calls
set_option Elab.async false
set_option compiler.extract_closed false
namespace Mine
set_option maxRecDepth 100000
noncomputable abbrev tA (dp un : Nat) (gd : Option (List Code)) (env : Env) (outer : List Env) : Around := { handled := none, depth := dp, frames := some (env :: outer), guards := gd, units := un }
noncomputable abbrev kE (P : Params) (x : String) (t : Tok) (v : Value) : DictEntry := { hash := PyData.keyHash P (Str.ofString x), key := .str (Str.ofString x) t, val := v }
/-- the seven tokens of a lexer's dict -/
structure Tk7 where
  k1 : Tok
  k2 : Tok
  k3 : Tok
  k4 : Tok
  k5 : Tok
  t1 : Tok
  t3 : Tok
noncomputable abbrev lexDict (P : Params) (k1 k2 k3 k4 t1 t3 : Tok) (ln : Int) (ins : Value) (PB : Addr) : Obj :=
  dictOf [kE P "lineno" k1 (.int ln t1), kE P "instream" k2 ins, kE P "whitespace" k3 (.str (Str.ofString "\n\t\x0d ") t3), kE P "pushback" k4 (.ref PB)] 4
noncomputable abbrev strDict (P : Params) (k1 k2 k3 k4 k5 t1 t3 : Tok) (PB LAM : Addr) : Obj :=
  dictOf [kE P "lineno" k1 (.int 1 t1), kE P "instream" k2 .none, kE P "whitespace" k3 (.str (Str.ofString "\n\t\x0d ") t3), kE P "pushback" k4 (.ref PB), kE P "read" k5 (.ref LAM)] 5
/-- a function object made of «lambda size: signs.pop() if signs else ''» -/
noncomputable abbrev lamObj (q : Str) (CELL CO : Addr) (pm ct : Value) : Obj :=
  kla_obj (Str.ofString "<lambda>") q { posonlyargs := [], args := [{ arg := Str.ofString "size", annotation := none, pos := ⟨118, 25, 118, 29⟩ }], vararg := none, kwonlyargs := [], kw_defaults := [], kwarg := none, defaults := [] }
    ((Expr.Name (Str.ofString "signs") ⟨118, 46, 118, 51⟩).IfExp (((Expr.Name (Str.ofString "signs") ⟨118, 31, 118, 36⟩).Attribute (Str.ofString "pop") ⟨118, 31, 118, 40⟩).Call [] [] ⟨118, 31, 118, 42⟩) (Expr.Constant (Const.str (Str.ofString "")) 0 ⟨118, 57, 118, 59⟩) ⟨118, 31, 118, 59⟩)
    { kind := ScopeKind.function, names := [(Str.ofString "size", NameKind.local), (Str.ofString "signs", NameKind.free)], isGenerator := false, isCoroutine := false } [(Str.ofString "signs", CELL)] pm CO ct
end Mine
end
section
open PySem PySem.W PyProof.Rows PySem.Calls
set_option Elab.async false
set_option compiler.extract_closed false
namespace Mine
set_option maxRecDepth 100000
section
variable {prog : Program} {w : World} {A : Around} {E : Value → Shared → Prop} {s : Shared} {h₀ : Heap} {L D : Addr} {m : Str → Option Value} {news news' : List (Addr × Obj)} {n : Nat}
theorem news_list {its : Array Value} (N : News h₀ L s.heap news) (hm : (D, listOf its n) ∈ news) : s.heap.IsList D its := ⟨_, (N _ hm).1, rfl, n, rfl⟩
theorem truthy_snoc {us : List Value} {y : Value} {Q : Bool → Shared → Prop} (N : News h₀ L s.heap news) (hm : (D, listOf (us ++ [y]).toArray n) ∈ news) (hz : us.length < sizeLine) (h : Q true { s with toks := s.toks + 1 + 1 }) :
    wpAny (model prog w) A (truthy (.ref D)) Q E s := by
  have hs : (us ++ [y]).toArray.size = us.length + 1 := by simp
  refine wpAny_truthy_list (news_list N hm) ?_ ?_
  · rw [hs]; rw [sizeLine_eq] at hz; omega
  · have : (us ++ [y]).toArray.isEmpty = false := by simp
    rw [this]; exact h
theorem truthy_nil {Q : Bool → Shared → Prop} (N : News h₀ L s.heap news) (hm : (D, listOf #[] n) ∈ news) (h : Q false { s with toks := s.toks + 1 + 1 }) :
    wpAny (model prog w) A (truthy (.ref D)) Q E s :=
  wpAny_truthy_list (news_list N hm) (by decide) h
theorem pop_snoc {us : List Value} {y : Value} {Q : Value → Shared → Prop} (F : Fr h₀ L s.heap m) (N : News h₀ L s.heap news) (U : Upd D (listOf (us ++ [y]).toArray n) (listOf us.toArray (n + 1)) news news')
    (hz : us.length < sizeLine) (h : ∀ h', Fr h₀ L h' m → News h₀ L h' news' → Q y { s with heap := h' }) : wpAny (model prog w) A (call (.builtin "list.pop") [.ref D]) Q E s :=
  kl_pop F N (p := us) (y := y) (by simpa using kpa_last y us) U (by simp; omega) h

theorem keep_of {h h' g : Heap} {L' : Addr} {m' : Str → Option Value} {led led' : List (Addr × Obj)} (mu : List Addr) (kg : ∀ b o, h.get? b = some o → b ∉ led.map (·.1) → g.get? b = some o) (F' : Fr g L' h' m')
    (N : News h₀ L h led) (N' : News g L' h' led') (hs : ∀ p ∈ led, p.1 ∈ mu ∨ p ∈ led') : ∀ b o, h.get? b = some o → b ∉ mu → h'.get? b = some o := by
  intro b o e hb
  by_cases hm : b ∈ led.map (·.1)
  · obtain ⟨p, hp, rfl⟩ := List.mem_map.mp hm
    rcases hs p hp with h1 | h1
    · exact absurd h1 hb
    · have e1 := (N p hp).1
      rw [e] at e1
      cases e1
      exact (N' p h1).1
  · exact F'.keep b o (kg b o e hm)
end
/-- the line count behind a sign -/
noncomputable abbrev bump (c : Nat) (ln : Int) : Int := if ((⟨#[c]⟩ : Str) == Str.ofString "\n") = true then ln + 1 else ln
noncomputable abbrev Led (h : Heap) (l : List (Addr × Obj)) : Prop := ∀ p ∈ l, h.get? p.1 = some p.2
theorem led_of {h₀ h : Heap} {L : Addr} {l l' : List (Addr × Obj)} (N : News h₀ L h l) (hs : ∀ p ∈ l', p ∈ l) : Led h l' := fun p hp => (N p (hs p hp)).1
section
variable {prog : Program} {w : World} {A : Around} {E : Value → Shared → Prop} {s : Shared} {h₀ : Heap} {L D : Addr} {m : Str → Option Value} {news news' : List (Addr × Obj)} {n : Nat}
theorem truthy_cons {us : List Value} {y : Value} {Q : Bool → Shared → Prop} (N : News h₀ L s.heap news) (hm : (D, listOf (y :: us).toArray n) ∈ news) (hz : us.length < sizeLine) (h : Q true { s with toks := s.toks + 1 + 1 }) :
    wpAny (model prog w) A (truthy (.ref D)) Q E s := by
  have hs : (y :: us).toArray.size = us.length + 1 := by simp
  refine wpAny_truthy_list (news_list N hm) ?_ ?_
  · rw [hs]; rw [sizeLine_eq] at hz; omega
  · have : (y :: us).toArray.isEmpty = false := by simp
    rw [this]; exact h
theorem pop_front {us : List Value} {y : Value} {u : Tok} {Q : Value → Shared → Prop} (F : Fr h₀ L s.heap m) (N : News h₀ L s.heap news) (U : Upd D (listOf (y :: us).toArray n) (listOf us.toArray (n + 1)) news news')
    (hz : us.length < sizeLine) (h : ∀ h', Fr h₀ L h' m → News h₀ L h' news' → Q y { s with heap := h' }) : wpAny (model prog w) A (call (.builtin "list.pop") [.ref D, .int 0 u]) Q E s :=
  kl_popAt (k := 0) F N (p := []) (q := us) (y := y) rfl (by simp [seqIndex?]) rfl U (by simp; omega) h
theorem append_list {us : List Value} {y : Value} {Q : Value → Shared → Prop} (F : Fr h₀ L s.heap m) (N : News h₀ L s.heap news) (U : Upd D (listOf us.toArray n) (listOf (us ++ [y]).toArray (n + 1)) news news')
    (hz : us.length ≤ sizeLine) (h : ∀ h', Fr h₀ L h' m → News h₀ L h' news' → Q .none { s with heap := h' }) : wpAny (model prog w) A (call (.builtin "list.append") [.ref D, y]) Q E s := by
  have e : (us ++ [y]).toArray = us.toArray.push y := by simp
  rw [e] at U
  exact append_K F N U h (by simpa using hz)
end
end Mine
end
section
open PySem PySem.W PyProof.Rows PySem.Calls Mine
set_option compiler.extract_closed false in
local macro_rules | `(tactic| k_units) => `(tactic| ktr_units)
section
open PySem PySem.W PyProof.Rows PySem.Calls Mine
set_option compiler.extract_closed false in
local macro_rules | `(tactic| k_room) => `(tactic| ktr_room)
section
open PySem PySem.W PyProof.Rows PySem.Calls Mine
set_option compiler.extract_closed false in
local macro_rules | `(tactic| walk_at "call builtin:list.append") => `(tactic| (k_dflt (refine' append_list (by k_asm) (by k_asm) (by k_upd) (by assumption) ?_); kl_rest))
section
open PySem PySem.W PyProof.Rows PySem.Calls Mine
set_option compiler.extract_closed false in
local macro_rules | `(tactic| walk_at "call builtin:list.pop") => `(tactic| (k_dflt first | refine' pop_snoc (by k_asm) (by k_asm) (by k_upd) (by assumption) ?_ | refine' pop_front (by k_asm) (by k_asm) (by k_upd) (by assumption) ?_); kl_rest)
section
open PySem PySem.W PyProof.Rows PySem.Calls Mine
set_option compiler.extract_closed false in
local macro_rules | `(tactic| walk_at "truthy ref") => `(tactic| k_dflt first | refine' truthy_snoc (by k_asm) (by k_mem) (by assumption) ?_ | refine' truthy_nil (by k_asm) (by k_mem) ?_ | refine' truthy_cons (by k_asm) (by k_mem) (by assumption) ?_)
section
open PySem PySem.W PyProof.Rows PySem.Calls
set_option Elab.async false
set_option compiler.extract_closed false
namespace Mine
set_option maxRecDepth 100000
set_option maxHeartbeats 8000000
set_option pp.deepTerms true

theorem c_read (w : World) (p : Program) (loose : List Str) (mean : ExcName → Option Value) (mg mb : Str → Option Value) 
   (DX SG X ST DS LAM CELL CO PB PB1 : Addr) (k1 k2 k3 k4 t1 t3 j1 j2 j3 j4 j5 u1 u3 : Tok) (ln : Int) (us : List Value) (c : Nat) (uc : Tok) (n : Nat) (q : Str) (pm ct : Value) (cellO co : Obj) (cvs : Array Value) (qt : Tok)
   (hcell : cellO.data = .cell (some (.ref SG))) (hco : co.data = .fields cvs) (hcq : cvs[1]? = some (.str q qt)) 
   (hord : @LT.lt Nat _ CELL SG ∧ @LT.lt Nat _ SG DS ∧ @LT.lt Nat _ DS ST ∧ @LT.lt Nat _ ST LAM ∧ (@LT.lt Nat _ CO CELL ∨ (@LT.lt Nat _ ST CO ∧ @LT.lt Nat _ CO LAM)) ∧ @LT.lt Nat _ LAM DX ∧ @LT.lt Nat _ DX X) (hlen : us.length < sizeLine) :
  ∀ (dp un : Nat) (gd : Option (List Code)) (env : Env) (outer : List Env) (A₀ : Around) (base h₀ : Heap) (L : Addr) (m : Str → Option Value) (s : Shared) (R : Result → Shared → Prop),
    Below A₀ base outer h₀ → Fr h₀ L s.heap m → (hd.heap_39 w.params).In h₀ → 
    News h₀ L s.heap [(DX, lexDict w.params k1 k2 k3 k4 t1 t3 ln (.ref ST) PB), (SG, listOf (us ++ [Value.str ⟨#[c]⟩ uc]).toArray n), (X, instObj 59 DX), (ST, instObj 59 DS), (DS, strDict w.params j1 j2 j3 j4 j5 u1 u3 PB1 LAM), (LAM, lamObj q CELL CO pm ct), (CELL, cellO), (CO, co)] → Top p loose mean mg mb h₀ → CodeHd base 86 82 → env.frame = some L → env.scope.kind = .function → 
    dp + 8 < recursionLimit → un + 90 < cLine → 
    (∀ h' tk' t1', (∀ b o, s.heap.get? b = some o → b ∉ [DX, SG] → h'.get? b = some o) → 
      Led h' [(DX, lexDict w.params k1 k2 k3 k4 t1' t3 (bump c ln) (.ref ST) PB), (SG, listOf us.toArray (n + 1))] → R (.ok (.ret (.str ⟨#[c]⟩ uc))) { s with heap := h', toks := tk' }) →
      codeAny (model Mine.rwv.row.prog w) (tA dp un gd env outer) (.call (.ref 42) ⟨[.ref X], []⟩) R s := by
  k_fill
  intros; rename_i hret
  k_dflt (refine' my_enter ?k1 ?k2 ?k3 ?k4 ?k5 ?kA ?kF ?kK ?k6 ?kd ?k7 ?k8 ?k9 ?kB ?_ ?c2 ?c3 ?c4 ?c5; (case kA => rfl); (case kF => assumption); (case kK => assumption); (case k1 => k_asm); (case k2 => k_asm); (case k3 => k_asm); (case k4 => k_asm); (case k5 => k_asm); (case k6 => (first | exact Frag.In.keeps (by k_asm) (Fr.keep (by k_asm)) _ _ (by k_is))); (case kd => rfl); (case k7 => exact codeRec_of (Frag.In.keeps (by k_asm) (Fr.keep (by k_asm))) (by k_is)); (case k8 => ktr_room); (case k9 => exact BindsTo.of_eq rfl); (case c2 => decide); (case kB => exact locs rfl); (case c3 => exact rfl); (case c4 => exact rfl); (case c5 => exact rfl); k_whole; intro g' L' h' kg' F' N' B' X' T' l1; (try k_lt l1); (try dsimp only); (try k_lift B'); (try k_fold))
  k_steps
  all_goals (try dsimp only)
  all_goals (
    rename ((_ == Str.ofString "\n") = _) => hb
    simp only [bump, hb, if_true, if_false, Bool.false_eq_true] at hret
    refine' hret _ _ _ ?k ?l
    (case l => exact List.forall_mem_cons.mpr ⟨News.get (by assumption) (by k_mem), List.forall_mem_cons.mpr ⟨News.get (by assumption) (by k_mem), fun _ h => nomatch h⟩⟩)
    (case k => refine keep_of [DX, SG] (by assumption) (by assumption) (by assumption) (by assumption) (List.forall_mem_cons.mpr ⟨.inl (by k_mem), List.forall_mem_cons.mpr ⟨.inl (by k_mem), ?_⟩⟩); (repeat (first | exact List.forall_mem_nil _ | (refine List.forall_mem_cons.mpr ⟨.inr ?km, ?_⟩; (case km => k_mem))))))
theorem c_read_nil (w : World) (p : Program) (loose : List Str) (mean : ExcName → Option Value) (mg mb : Str → Option Value) 
   (DX SG X ST DS LAM CELL CO PB PB1 : Addr) (k1 k2 k3 k4 t1 t3 j1 j2 j3 j4 j5 u1 u3 : Tok) (ln : Int) (n : Nat) (q : Str) (pm ct : Value) (cellO co : Obj) (cvs : Array Value) (qt : Tok)
   (hcell : cellO.data = .cell (some (.ref SG))) (hco : co.data = .fields cvs) (hcq : cvs[1]? = some (.str q qt)) 
   (hord : @LT.lt Nat _ CELL SG ∧ @LT.lt Nat _ SG DS ∧ @LT.lt Nat _ DS ST ∧ @LT.lt Nat _ ST LAM ∧ (@LT.lt Nat _ CO CELL ∨ (@LT.lt Nat _ ST CO ∧ @LT.lt Nat _ CO LAM)) ∧ @LT.lt Nat _ LAM DX ∧ @LT.lt Nat _ DX X) :
  ∀ (dp un : Nat) (gd : Option (List Code)) (env : Env) (outer : List Env) (A₀ : Around) (base h₀ : Heap) (L : Addr) (m : Str → Option Value) (s : Shared) (R : Result → Shared → Prop),
    Below A₀ base outer h₀ → Fr h₀ L s.heap m → (hd.heap_39 w.params).In h₀ → 
    News h₀ L s.heap [(DX, lexDict w.params k1 k2 k3 k4 t1 t3 ln (.ref ST) PB), (SG, listOf #[] n), (X, instObj 59 DX), (ST, instObj 59 DS), (DS, strDict w.params j1 j2 j3 j4 j5 u1 u3 PB1 LAM), (LAM, lamObj q CELL CO pm ct), (CELL, cellO), (CO, co)] → Top p loose mean mg mb h₀ → CodeHd base 86 82 → env.frame = some L → env.scope.kind = .function → 
    dp + 8 < recursionLimit → un + 90 < cLine → 
    (∀ h' tk' u, (∀ b o, s.heap.get? b = some o → h'.get? b = some o) → R (.ok (.ret (.str (Str.ofString "") u))) { s with heap := h', toks := tk' }) →
      codeAny (model Mine.rwv.row.prog w) (tA dp un gd env outer) (.call (.ref 42) ⟨[.ref X], []⟩) R s := by
  k_fill
  intros; rename_i hret
  k_dflt (refine' my_enter ?k1 ?k2 ?k3 ?k4 ?k5 ?kA ?kF ?kK ?k6 ?kd ?k7 ?k8 ?k9 ?kB ?_ ?c2 ?c3 ?c4 ?c5; (case kA => rfl); (case kF => assumption); (case kK => assumption); (case k1 => k_asm); (case k2 => k_asm); (case k3 => k_asm); (case k4 => k_asm); (case k5 => k_asm); (case k6 => (first | exact Frag.In.keeps (by k_asm) (Fr.keep (by k_asm)) _ _ (by k_is))); (case kd => rfl); (case k7 => exact codeRec_of (Frag.In.keeps (by k_asm) (Fr.keep (by k_asm))) (by k_is)); (case k8 => ktr_room); (case k9 => exact BindsTo.of_eq rfl); (case c2 => decide); (case kB => exact locs rfl); (case c3 => exact rfl); (case c4 => exact rfl); (case c5 => exact rfl); k_whole; intro g' L' h' kg' F' N' B' X' T' l1; (try k_lt l1); (try dsimp only); (try k_lift B'); (try k_fold))
  k_steps
  all_goals (try dsimp only)
  refine' hret _ _ _ ?k
  (case k => intro b o e; refine keep_of [] (by assumption) (by assumption) (by assumption) (by assumption) ?_ b o e List.not_mem_nil; (repeat (first | exact List.forall_mem_nil _ | (refine List.forall_mem_cons.mpr ⟨.inr ?km, ?_⟩; (case km => k_mem)))))
end Mine
end
section
open PySem PySem.W PyProof.Rows PySem.Calls
set_option Elab.async false
set_option compiler.extract_closed false
namespace Mine
set_option maxRecDepth 100000
set_option genInjectivity false in
set_option genSizeOfSpec false in
/-- what stays of a lexer -/
structure Lx where
  DX : Nat
  SG : Nat
  X : Nat
  ST : Nat
  DS : Nat
  LAM : Nat
  CELL : Nat
  CO : Nat
  PB : Nat
  PB1 : Nat
  k1 : Tok
  k2 : Tok
  k3 : Tok
  k4 : Tok
  t3 : Tok
  j1 : Tok
  j2 : Tok
  j3 : Tok
  j4 : Tok
  j5 : Tok
  u1 : Tok
  u3 : Tok
  q : Str
  pm : Value
  ct : Value
  cellO : Obj
  co : Obj
  cvs : Array Value
  qt : Tok
  pbn : Nat := 0
structure Lx.Ok (c : Lx) : Prop where
  hcell : c.cellO.data = .cell (some (.ref c.SG))
  hco : c.co.data = .fields c.cvs
  hcq : c.cvs[1]? = some (.str c.q c.qt)
  hord : c.CELL < c.SG ∧ c.SG < c.DS ∧ c.DS < c.ST ∧ c.ST < c.LAM ∧ (c.CO < c.CELL ∨ (c.ST < c.CO ∧ c.CO < c.LAM)) ∧ c.LAM < c.DX ∧ c.DX < c.X ∧ c.X < c.PB
noncomputable abbrev Lx.dx (c : Lx) (P : Params) (t1 : Tok) (ln : Int) : Obj := lexDict P c.k1 c.k2 c.k3 c.k4 t1 c.t3 ln (.ref c.ST) c.PB
noncomputable abbrev Lx.led (c : Lx) (P : Params) (t1 : Tok) (ln : Int) (vs : List Value) (n : Nat) : List (Addr × Obj) :=
  [(c.DX, c.dx P t1 ln), (c.SG, listOf vs.toArray n), (c.X, instObj 59 c.DX), (c.ST, instObj 59 c.DS), (c.DS, strDict P c.j1 c.j2 c.j3 c.j4 c.j5 c.u1 c.u3 c.PB1 c.LAM), (c.LAM, lamObj c.q c.CELL c.CO c.pm c.ct), (c.CELL, c.cellO), (c.CO, c.co)]

theorem fr_after {h₀ h h' : Heap} {L : Addr} {m : Str → Option Value} {news : List (Addr × Obj)} {mu : List Addr} (F : Fr h₀ L h m) (N : News h₀ L h news) (hk : ∀ b o, h.get? b = some o → b ∉ mu → h'.get? b = some o) (hm : ∀ a ∈ mu, ∃ o, (a, o) ∈ news) : Fr h₀ L h' m := by
  refine ⟨?_, fun b o e => hk b o (F.keep b o e) fun hb => ?_, F.above⟩
  · obtain ⟨oL, es, ep, hL, r⟩ := F.ns
    refine ⟨oL, es, ep, hk _ _ hL fun hb => ?_, r⟩
    obtain ⟨o, ho⟩ := hm _ hb
    exact (N _ ho).2.1 rfl
  · obtain ⟨o', ho⟩ := hm _ hb
    have := (N _ ho).2.2
    rw [e] at this; cases this
theorem news_after {h₀ h h' : Heap} {L : Addr} {news news' led' : List (Addr × Obj)} {mu : List Addr} (N : News h₀ L h news) (hk : ∀ b o, h.get? b = some o → b ∉ mu → h'.get? b = some o) (hl : Led h' led')
    (hs : ∀ p ∈ news', (p ∈ led' ∧ ∃ o, (p.1, o) ∈ news) ∨ (p ∈ news ∧ p.1 ∉ mu)) : News h₀ L h' news' := fun p hp => by
  rcases hs p hp with ⟨h1, o, h2⟩ | ⟨h1, h2⟩
  · exact ⟨hl p h1, (N _ h2).2⟩
  · exact ⟨hk _ _ (N p h1).1 h2, (N p h1).2⟩
theorem off2 {a b c : Nat} (h1 : a ≠ b) (h2 : a ≠ c) : a ∉ [b, c] := by simp [h1, h2]
theorem off1 {a b : Nat} (h1 : a ≠ b) : a ∉ [b] := by simp [h1]
theorem off0 {a : Nat} : a ∉ ([] : List Nat) := List.not_mem_nil
section
variable {prog : Program} {w : World} {A : Around} {E : Value → Shared → Prop} {s : Shared} {h₀ : Heap} {L : Addr} {m : Str → Option Value} {news : List (Addr × Obj)}
theorem iter2_K {q : Addr} {f self snt : Value} {Q : Value → Shared → Prop} (F : Fr h₀ L s.heap m) (N : News h₀ L s.heap news) (hq : (q, methodObj f self) ∈ news)
    (h : ∀ it h', Fr h₀ L h' m → News h₀ L h' ((it, ciObj (.ref q) snt false) :: news) → (∀ p ∈ news, p.1 < it) → Q (.ref it) { s with heap := h' }) :
    wpAny (model prog w) A (call (.builtin "iter") [.ref q, snt]) Q E s :=
  call_iter2 (N _ hq).1 (h _ _ (F.push _) (N.push F _) fun p hp => Heap.lt_size (N p hp).1)
end
end Mine
end
section
open PySem PySem.W PyProof.Rows PySem.Calls
set_option Elab.async false
set_option compiler.extract_closed false
namespace Mine
set_option maxRecDepth 100000
set_option maxHeartbeats 8000000
noncomputable abbrev Lx.led2 (c : Lx) (P : Params) (FIT MO : Nat) (tf t1 : Tok) (ln : Int) (vs : List Value) (n : Nat) : List (Addr × Obj) :=
  (FIT, ciObj (.ref MO) (.str (Str.ofString "") tf) false) :: (MO, methodObj (.ref 42) (.ref c.X)) :: (c.PB, listOf #[] c.pbn) :: c.led P t1 ln vs n
theorem sub_news {h₀ h : Heap} {L : Addr} {l l' : List (Addr × Obj)} (N : News h₀ L h l) (hs : ∀ p ∈ l', p ∈ l) : News h₀ L h l' := fun p hp => N p (hs p hp)
theorem empty_ne (d : Nat) : Str.ofString "" ≠ (⟨#[d]⟩ : Str) := fun e => by
  have : (Str.ofString "").cps.size = (⟨#[d]⟩ : Str).cps.size := by rw [e]
  have e2 : Str.ofString "" = ⟨#[]⟩ := by decide +kernel
  rw [e2] at this
  cases this

theorem after_read {h₀ h h' : Heap} {L : Addr} {P : Params} {c : Lx} {t1 t1' : Tok} {ln ln' : Int} {vs vs' : List Value} {n n' : Nat} {m : Str → Option Value} {own : List (Addr × Obj)} (ok : c.Ok) (F : Fr h₀ L h m) (N : News h₀ L h (own ++ c.led P t1 ln vs n))
    (ho : ∀ p ∈ own, c.DX < p.1) (hk : ∀ b o, h.get? b = some o → b ∉ [c.DX, c.SG] → h'.get? b = some o) (hl : Led h' [(c.DX, c.dx P t1' ln'), (c.SG, listOf vs'.toArray n')]) :
    Fr h₀ L h' m ∧ News h₀ L h' (own ++ c.led P t1' ln' vs' n') := by
  obtain ⟨_, _, _, hord⟩ := ok
  have m1 : (c.DX, c.dx P t1 ln) ∈ own ++ c.led P t1 ln vs n := List.mem_append_right _ (.head _)
  have m2 : (c.SG, listOf vs.toArray n) ∈ own ++ c.led P t1 ln vs n := List.mem_append_right _ (.tail _ (.head _))
  refine ⟨fr_after F N hk fun a ha => ?_, news_after N hk hl fun p hp => ?_⟩
  · simp only [List.mem_cons, List.not_mem_nil, or_false] at ha
    rcases ha with rfl | rfl
    · exact ⟨_, m1⟩
    · exact ⟨_, m2⟩
  · rcases List.mem_append.mp hp with hp | hp
    · have := ho p hp
      exact .inr ⟨List.mem_append_left _ hp, off2 (a := p.1) (b := c.DX) (c := c.SG) (by omega) (by omega)⟩
    · rcases List.mem_cons.mp hp with rfl | hp
      · exact .inl ⟨.head _, _, m1⟩
      · rcases List.mem_cons.mp hp with rfl | hp
        · exact .inl ⟨.tail _ (.head _), _, m2⟩
        · refine .inr ⟨List.mem_append_right _ (.tail _ (.tail _ hp)), ?_⟩
          obtain ⟨b1, b2, b3, b4, b5, b6, b7, b8⟩ := hord
          have xST := Nat.lt_trans b4 b6
          have xDS := Nat.lt_trans b3 xST
          have cSG := Nat.lt_trans b2 xDS
          have xCELL := Nat.lt_trans b1 cSG
          have sST := Nat.lt_trans b2 b3
          refine (show ∀ q ∈ _, q.1 ∉ [c.DX, c.SG] from ?_) _ hp
          refine List.forall_mem_cons.mpr ⟨off2 (Nat.ne_of_gt b7) (Nat.ne_of_gt (Nat.lt_trans cSG b7)), ?_⟩
          refine List.forall_mem_cons.mpr ⟨off2 (Nat.ne_of_lt xST) (Nat.ne_of_gt sST), ?_⟩
          refine List.forall_mem_cons.mpr ⟨off2 (Nat.ne_of_lt xDS) (Nat.ne_of_gt b2), ?_⟩
          refine List.forall_mem_cons.mpr ⟨off2 (Nat.ne_of_lt b6) (Nat.ne_of_gt (Nat.lt_trans sST b4)), ?_⟩
          refine List.forall_mem_cons.mpr ⟨off2 (Nat.ne_of_lt xCELL) (Nat.ne_of_lt b1), ?_⟩
          refine List.forall_mem_cons.mpr ⟨?_, List.forall_mem_nil _⟩
          rcases b5 with b5 | ⟨b5, b5'⟩
          · exact off2 (Nat.ne_of_lt (Nat.lt_trans b5 xCELL)) (Nat.ne_of_lt (Nat.lt_trans b5 b1))
          · exact off2 (Nat.ne_of_lt (Nat.lt_trans b5' b6)) (Nat.ne_of_gt (Nat.lt_trans sST b5))

theorem next_read (w : World) (p : Program) (loose : List Str) (mean : ExcName → Option Value) (mg mb : Str → Option Value) (c : Lx) (ok : c.Ok) (t1 : Tok) (ln : Int) (us : List Value) (d : Nat) (uc : Tok) (n : Nat) (FIT MO : Nat) (tf : Tok) (hlen : us.length < sizeLine) (h1 : c.PB < MO) (h2 : MO < FIT)
    (dp un : Nat) (gd : Option (List Code)) (env : Env) (outer : List Env) (A₀ : Around) (base h₀ : Heap) (L : Addr) (m : Str → Option Value) (s : Shared) (Q : Option Value → Shared → Prop) (E : Value → Shared → Prop)
    (B : Below A₀ base outer h₀) (F : Fr h₀ L s.heap m) (X₀ : (hd.heap_39 w.params).In h₀) (N : News h₀ L s.heap (c.led2 w.params FIT MO tf t1 ln (us ++ [.str ⟨#[d]⟩ uc]) n)) (T : Top p loose mean mg mb h₀) (C : CodeHd base 86 82) (hf : env.frame = some L) (hke : env.scope.kind = .function)
    (hdp : dp + 8 < recursionLimit) (hun : un + 91 < cLine)
    (h : ∀ h' tk' t1', Fr h₀ L h' m → News h₀ L h' (c.led2 w.params FIT MO tf t1' (bump d ln) us (n + 1)) → Q (some (.str ⟨#[d]⟩ uc)) { s with heap := h', toks := tk' }) :
    wpAny (model Mine.rwv.row.prog w) (tA dp un gd env outer) (pyNext (.ref FIT)) Q E s := by
  (revert X₀; k_fill; intro X₀)
  have ho := ok.hord
  refine pyNext_ci_item (News.get N (by k_mem)) (News.get N (by k_mem)) (Frag.In.keeps X₀ F.keep _ _ (by k_is)) rfl ?_
  refine method_call (News.get N (by k_mem)) ?_
  refine c_read w p loose mean mg mb c.DX c.SG c.X c.ST c.DS c.LAM c.CELL c.CO c.PB c.PB1 c.k1 c.k2 c.k3 c.k4 t1 c.t3 c.j1 c.j2 c.j3 c.j4 c.j5 c.u1 c.u3 ln us d uc n c.q c.pm c.ct c.cellO c.co c.cvs c.qt ok.hcell ok.hco ok.hcq ⟨ok.hord.1, ok.hord.2.1, ok.hord.2.2.1, ok.hord.2.2.2.1, ok.hord.2.2.2.2.1, ok.hord.2.2.2.2.2.1, ok.hord.2.2.2.2.2.2.1⟩ hlen dp (un + 1) gd env outer A₀ base h₀ L m s _ B F X₀ (sub_news N fun p hp => List.mem_append_right [_, _, _] hp) T C hf hke hdp hun ?_
  intro h' tk' t1' hk hl
  obtain ⟨F', N'⟩ := after_read (own := [_, _, _]) ok F N (by intro p hp; simp only [List.mem_cons, List.not_mem_nil, or_false] at hp; rcases hp with rfl | rfl | rfl <;> dsimp only <;> omega) hk hl
  exact ⟨_, _, rfl, empty_ne d, News.get N' (by k_mem), h h' tk' t1' F' N'⟩

theorem next_end (w : World) (p : Program) (loose : List Str) (mean : ExcName → Option Value) (mg mb : Str → Option Value) (c : Lx) (ok : c.Ok) (t1 : Tok) (ln : Int) (n : Nat) (FIT MO : Nat) (tf : Tok) (h1 : c.PB < MO) (h2 : MO < FIT)
    (dp un : Nat) (gd : Option (List Code)) (env : Env) (outer : List Env) (A₀ : Around) (base h₀ : Heap) (L : Addr) (m : Str → Option Value) (s : Shared) (Q : Option Value → Shared → Prop) (E : Value → Shared → Prop)
    (B : Below A₀ base outer h₀) (F : Fr h₀ L s.heap m) (X₀ : (hd.heap_39 w.params).In h₀) (N : News h₀ L s.heap (c.led2 w.params FIT MO tf t1 ln [] n)) (T : Top p loose mean mg mb h₀) (C : CodeHd base 86 82) (hf : env.frame = some L) (hke : env.scope.kind = .function)
    (hdp : dp + 8 < recursionLimit) (hun : un + 91 < cLine)
    (h : ∀ h' tk', Fr h₀ L h' m → News h₀ L h' ((c.PB, listOf #[] c.pbn) :: c.led w.params t1 ln [] n) → Q none { s with heap := h', toks := tk' }) :
    wpAny (model Mine.rwv.row.prog w) (tA dp un gd env outer) (pyNext (.ref FIT)) Q E s := by
  (revert X₀; k_fill; intro X₀)
  have ho := ok.hord
  have k42 := Frag.In.keeps X₀ F.keep
  have e42 : ∃ o42 fd, s.heap.get? 42 = some o42 ∧ o42.data = .func fd := ⟨_, _, k42 _ _ (by k_is), rfl⟩
  obtain ⟨o42, fd, e1, e2⟩ := e42
  refine pyNext_ci_end rfl (News.get N (by k_mem)) (News.get N (by k_mem)) e1 e2 ?_
  refine method_call (News.get N (by k_mem)) ?_
  refine c_read_nil w p loose mean mg mb c.DX c.SG c.X c.ST c.DS c.LAM c.CELL c.CO c.PB c.PB1 c.k1 c.k2 c.k3 c.k4 t1 c.t3 c.j1 c.j2 c.j3 c.j4 c.j5 c.u1 c.u3 ln n c.q c.pm c.ct c.cellO c.co c.cvs c.qt ok.hcell ok.hco ok.hcq ⟨ok.hord.1, ok.hord.2.1, ok.hord.2.2.1, ok.hord.2.2.2.1, ok.hord.2.2.2.2.1, ok.hord.2.2.2.2.2.1, ok.hord.2.2.2.2.2.2.1⟩ dp (un + 1) gd env outer A₀ base h₀ L m s _ B F X₀ (sub_news N fun p hp => List.mem_append_right [_, _, _] hp) T C hf hke hdp hun ?_
  intro h' tk' u hk
  have F' : Fr h₀ L h' m := fr_after (mu := []) F N (fun b o e _ => hk b o e) (fun a ha => nomatch ha)
  have N' := news_after (mu := []) (led' := []) N (fun b o e _ => hk b o e) (fun p hp => nomatch hp) fun p hp => .inr ⟨hp, List.not_mem_nil⟩
  refine ⟨u, rfl, News.get N' (by k_mem), News.get N' (by k_mem), hk _ _ e1, fun h'' hx => ?_⟩
  have hx' : ∀ b o, h'.get? b = some o → b ∉ [FIT] → h''.get? b = some o := fun b o e hb => hx b o (fun q => hb (by rw [q]; exact .head _)) e
  refine h h'' tk' (fr_after (mu := [FIT]) F' N' hx' fun a ha => ?_) (news_after (mu := [FIT]) (led' := []) N' hx' (fun p hp => nomatch hp) fun p hp => .inr ⟨List.mem_append_right [_, _] hp, ?_⟩)
  · simp only [List.mem_cons, List.not_mem_nil, or_false] at ha
    subst ha
    exact ⟨_, .head _⟩
  · obtain ⟨b1, b2, b3, b4, b5, b6, b7, b8⟩ := ok.hord
    have t0 := Nat.lt_trans h1 h2
    have t1 := Nat.lt_trans b8 t0
    have t2 := Nat.lt_trans b7 t1
    have t3 := Nat.lt_trans b6 t2
    have t4 := Nat.lt_trans b4 t3
    have t5 := Nat.lt_trans b3 t4
    have t6 := Nat.lt_trans b2 t5
    have t7 := Nat.lt_trans b1 t6
    refine (show ∀ q ∈ _, q.1 ∉ [FIT] from ?_) _ hp
    refine List.forall_mem_cons.mpr ⟨off1 (Nat.ne_of_lt t0), ?_⟩
    refine List.forall_mem_cons.mpr ⟨off1 (Nat.ne_of_lt t2), ?_⟩
    refine List.forall_mem_cons.mpr ⟨off1 (Nat.ne_of_lt t6), ?_⟩
    refine List.forall_mem_cons.mpr ⟨off1 (Nat.ne_of_lt t1), ?_⟩
    refine List.forall_mem_cons.mpr ⟨off1 (Nat.ne_of_lt t4), ?_⟩
    refine List.forall_mem_cons.mpr ⟨off1 (Nat.ne_of_lt t5), ?_⟩
    refine List.forall_mem_cons.mpr ⟨off1 (Nat.ne_of_lt t3), ?_⟩
    refine List.forall_mem_cons.mpr ⟨off1 (Nat.ne_of_lt t7), ?_⟩
    refine List.forall_mem_cons.mpr ⟨off1 ?_, List.forall_mem_nil _⟩
    rcases b5 with b5 | ⟨b5, b5'⟩
    · exact Nat.ne_of_lt (Nat.lt_trans b5 t7)
    · exact Nat.ne_of_lt (Nat.lt_trans b5' t3)

theorem call_read (w : World) (p : Program) (loose : List Str) (mean : ExcName → Option Value) (mg mb : Str → Option Value) (c : Lx) (ok : c.Ok) (t1 : Tok) (ln : Int) (us : List Value) (d : Nat) (uc : Tok) (n : Nat) (FIT MO : Nat) (tf : Tok) (hlen : us.length < sizeLine) (h1 : c.PB < MO) (h2 : MO < FIT)
    (dp un : Nat) (gd : Option (List Code)) (env : Env) (outer : List Env) (A₀ : Around) (base h₀ : Heap) (L : Addr) (m : Str → Option Value) (s : Shared) (Q : Value → Shared → Prop) (E : Value → Shared → Prop)
    (B : Below A₀ base outer h₀) (F : Fr h₀ L s.heap m) (X₀ : (hd.heap_39 w.params).In h₀) (N : News h₀ L s.heap (c.led2 w.params FIT MO tf t1 ln (us ++ [.str ⟨#[d]⟩ uc]) n)) (T : Top p loose mean mg mb h₀) (C : CodeHd base 86 82) (hf : env.frame = some L) (hke : env.scope.kind = .function)
    (hdp : dp + 8 < recursionLimit) (hun : un + 91 < cLine)
    (h : ∀ h' tk' t1', Fr h₀ L h' m → News h₀ L h' (c.led2 w.params FIT MO tf t1' (bump d ln) us (n + 1)) → Q (.str ⟨#[d]⟩ uc) { s with heap := h', toks := tk' }) :
    wpAny (model Mine.rwv.row.prog w) (tA dp un gd env outer) (call (.ref 42) [.ref c.X]) Q E s := by
  have ho := ok.hord
  refine wpAny_call ?_
  refine c_read w p loose mean mg mb c.DX c.SG c.X c.ST c.DS c.LAM c.CELL c.CO c.PB c.PB1 c.k1 c.k2 c.k3 c.k4 t1 c.t3 c.j1 c.j2 c.j3 c.j4 c.j5 c.u1 c.u3 ln us d uc n c.q c.pm c.ct c.cellO c.co c.cvs c.qt ok.hcell ok.hco ok.hcq ⟨ok.hord.1, ok.hord.2.1, ok.hord.2.2.1, ok.hord.2.2.2.1, ok.hord.2.2.2.2.1, ok.hord.2.2.2.2.2.1, ok.hord.2.2.2.2.2.2.1⟩ hlen dp un gd env outer A₀ base h₀ L m s _ B F X₀ (sub_news N fun p hp => List.mem_append_right [_, _, _] hp) T C hf hke hdp (by omega) ?_
  intro h' tk' t1' hk hl
  obtain ⟨F', N'⟩ := after_read (own := [_, _, _]) ok F N (by intro p hp; simp only [List.mem_cons, List.not_mem_nil, or_false] at hp; rcases hp with rfl | rfl | rfl <;> dsimp only <;> omega) hk hl
  exact h h' tk' t1' F' N'
end Mine
end
section
open PySem PySem.W PyProof.Rows PySem.Calls
set_option Elab.async false
set_option compiler.extract_closed false
namespace Mine
noncomputable abbrev isC (c : Nat) (x : String) : Bool := (⟨#[c]⟩ : Str) == Str.ofString x
noncomputable def wsC (c : Nat) : Bool := c == 10 || c == 9 || c == 13 || c == 32
noncomputable def bumps (cs : List Nat) (ln : Int) : Int := cs.foldl (fun l c => bump c l) ln
/-- within quotes: what is taken so far, what is to come; the token, what stays -/
inductive RdB : List Nat → List Nat → List Nat → List Nat → Prop
  | fin (acc r : List Nat) : RdB acc (34 :: r) acc r
  | esc (acc : List Nat) (d : Nat) (cs t r : List Nat) : RdB (acc ++ [d]) cs t r → RdB acc (92 :: d :: cs) t r
  | other (acc : List Nat) (c : Nat) (cs t r : List Nat) : c ≠ 34 → c ≠ 92 → RdB (acc ++ [c]) cs t r → RdB acc (c :: cs) t r
inductive RdC : List Nat → List Nat → List Nat → List Nat → Prop
  | fin (acc : List Nat) (c : Nat) (r : List Nat) : wsC c = true → RdC acc (c :: r) acc r
  | esc (acc : List Nat) (d : Nat) (cs t r : List Nat) : RdC (acc ++ [d]) cs t r → RdC acc (92 :: d :: cs) t r
  | other (acc : List Nat) (c : Nat) (cs t r : List Nat) : wsC c = false → c ≠ 92 → RdC (acc ++ [c]) cs t r → RdC acc (c :: cs) t r
inductive RdA : List Nat → List Nat → List Nat → Prop
  | nil : RdA [] [] []
  | ws (c : Nat) (cs t r : List Nat) : wsC c = true → RdA cs t r → RdA (c :: cs) t r
  | quot (cs t r : List Nat) : RdB [] cs t r → RdA (34 :: cs) t r
  | esc (d : Nat) (cs t r : List Nat) : RdC [d] cs t r → RdA (92 :: d :: cs) t r
  | other (c : Nat) (cs t r : List Nat) : wsC c = false → c ≠ 34 → c ≠ 92 → RdC [c] cs t r → RdA (c :: cs) t r
theorem str_one (x : String) (d : Nat) (h : Str.ofString x = ⟨#[d]⟩) (c : Nat) : isC c x = decide (c = d) := by
  unfold isC
  rw [h]
  by_cases e : c = d
  · subst e; simp
  · rw [decide_eq_false e]
    refine beq_eq_false_iff_ne.mpr fun q => e ?_
    injection q with q
    simpa using q
theorem isC_quot (c : Nat) : isC c "\"" = decide (c = 34) := str_one _ _ (by decide +kernel) c
theorem isC_back (c : Nat) : isC c "\\" = decide (c = 92) := str_one _ _ (by decide +kernel) c
theorem isC_nl (c : Nat) : isC c "\n" = decide (c = 10) := str_one _ _ (by decide +kernel) c
noncomputable def Halt (P : Prop) : Prop := P
theorem Halt.un {P : Prop} (h : P) : Halt P := h
theorem Halt.mk' {P : Prop} (h : Halt P) : P := h
noncomputable abbrev mkM (chv : Option Value) (tok : Str) (tt : Tok) (FIT : Addr) (X : Addr) : Str → Option Value := fun y => if y = Str.ofString "ch" then chv else if y = Str.ofString "token" then some (.str tok tt) else if y = Str.ofString "fiter" then some (.ref FIT) else if y = Str.ofString "self" then some (.ref X) else none
theorem fr_eq {h₀ h : Heap} {L : Addr} {m m' : Str → Option Value} (F : Fr h₀ L h m) (e : m = m') : Fr h₀ L h m' := e ▸ F
theorem lookup1_none {y k : Str} {v : Value} (h : ¬ y = k) : List.lookup y [(k, v)] = none := by
  rw [List.lookup_cons, beq_eq_false_iff_ne.mpr h]; rfl
/-- the reader's loops: what stands between the turns -/
noncomputable def LpI (c : Lx) (P : Params) (g' : Heap) (L' FIT MO : Nat) (s : Shared) (K : Int) (Rd : List Nat → List Nat → Prop) (k : Nat) (s' : Shared) : Prop :=
  ∃ acc cs' vs' n' t1' ln' h tk chv tt tf, s' = { s with heap := h, toks := tk } ∧ Fr g' L' h (mkM chv ⟨acc.toArray⟩ tt FIT c.X) ∧ News g' L' h (c.led2 P FIT MO tf t1' ln' vs' n') ∧ Signs vs' cs'.reverse ∧ Rd acc cs' ∧ bumps cs' ln' = K ∧ acc.length + cs'.length ≤ 1000000 ∧ k = cs'.length
theorem empty_is : Str.ofString "" = ⟨#[]⟩ := by decide +kernel
theorem tok_snoc (acc : List Nat) (c : Nat) : (⟨acc.toArray⟩ : Str) ++ (⟨#[c]⟩ : Str) = ⟨(acc ++ [c]).toArray⟩ := by
  show Str.append _ _ = _
  unfold Str.append
  congr 1
  simp
theorem small_fits {n : Nat} (h : n ≤ 1000000) : n < sizeLine := by rw [sizeLine_eq]; omega
theorem signs_snoc {vs : List Value} {c : Nat} {cs : List Nat} (h : Signs vs (c :: cs).reverse) : ∃ us u, vs = us ++ [.str ⟨#[c]⟩ u] ∧ Signs us cs.reverse := Signs.snoc (by simpa using h)
theorem ws_dec (c : Nat) : (Builtin.Str.occurrences (Str.ofString "\n\t\x0d ") ⟨#[c]⟩ 0 (Str.ofString "\n\t\x0d ").length 1).isEmpty = !wsC c := by
  have h := StrLaws.found_one (Str.ofString "\n\t\x0d ") c
  have e : (Str.ofString "\n\t\x0d ").cps.toList = [10, 9, 13, 32] := by decide +kernel
  rw [e] at h
  have h2 : decide (c ∈ [10, 9, 13, 32]) = wsC c := by
    unfold wsC
    simp only [List.mem_cons, List.not_mem_nil, or_false, Bool.decide_or, Bool.or_assoc]
    rfl
  rw [h2] at h
  rw [← h, Bool.not_not]
theorem ws_t {c : Nat} (h : wsC c = true) : (Builtin.Str.occurrences (Str.ofString "\n\t\x0d ") ⟨#[c]⟩ 0 (Str.ofString "\n\t\x0d ").length 1).isEmpty = false := by rw [ws_dec, h]; rfl
theorem ws_t' {c : Nat} (h : wsC c = true) : (!(Builtin.Str.occurrences (Str.ofString "\n\t\x0d ") ⟨#[c]⟩ 0 (Str.ofString "\n\t\x0d ").length 1).isEmpty) = true := by rw [ws_dec, h]; rfl
theorem ws_f {c : Nat} (h : wsC c = false) : (Builtin.Str.occurrences (Str.ofString "\n\t\x0d ") ⟨#[c]⟩ 0 (Str.ofString "\n\t\x0d ").length 1).isEmpty = true := by rw [ws_dec, h]; rfl
theorem ws_f' {c : Nat} (h : wsC c = false) : (!(Builtin.Str.occurrences (Str.ofString "\n\t\x0d ") ⟨#[c]⟩ 0 (Str.ofString "\n\t\x0d ").length 1).isEmpty) = false := by rw [ws_dec, h]; rfl
theorem q_f {c : Nat} (h : c ≠ 34) : ((⟨#[c]⟩ : Str) == Str.ofString "\"") = false := (isC_quot c).trans (decide_eq_false h)
theorem q_t : ((⟨#[34]⟩ : Str) == Str.ofString "\"") = true := (isC_quot 34).trans rfl
theorem b_f {c : Nat} (h : c ≠ 92) : ((⟨#[c]⟩ : Str) == Str.ofString "\\") = false := (isC_back c).trans (decide_eq_false h)
theorem b_t : ((⟨#[92]⟩ : Str) == Str.ofString "\\") = true := (isC_back 92).trans rfl
theorem mk_ch {v : Value} {chv : Option Value} {tok : Str} {tt : Tok} {FIT X : Addr} : (fun y => if y = Str.ofString "ch" then some v else mkM chv tok tt FIT X y) = mkM (some v) tok tt FIT X := by
  funext y
  by_cases h : y = Str.ofString "ch"
  · simp only [mkM, if_pos h]
  · simp only [mkM, if_neg h]
theorem mk_tok {v : Value} {chv : Option Value} {tok tok' : Str} {tt tt' : Tok} {FIT X : Addr} :
    (fun y => if y = Str.ofString "token" then some (.str tok' tt') else if y = Str.ofString "ch" then some v else mkM chv tok tt FIT X y) = mkM (some v) tok' tt' FIT X := by
  funext y
  by_cases h1 : y = Str.ofString "ch"
  · subst h1; rfl
  · by_cases h2 : y = Str.ofString "token"
    · subst h2; rfl
    · simp only [mkM, if_neg h1, if_neg h2]
theorem mk_tok2 {v v' : Value} {chv : Option Value} {tok tok' : Str} {tt tt' : Tok} {FIT X : Addr} :
    (fun y => if y = Str.ofString "token" then some (.str tok' tt') else if y = Str.ofString "ch" then some v' else if y = Str.ofString "ch" then some v else mkM chv tok tt FIT X y) = mkM (some v') tok' tt' FIT X := by
  funext y
  by_cases h1 : y = Str.ofString "ch"
  · subst h1; rfl
  · by_cases h2 : y = Str.ofString "token"
    · subst h2; rfl
    · simp only [mkM, if_neg h1, if_neg h2]
theorem tok_first (c : Nat) : Str.ofString "" ++ (⟨#[c]⟩ : Str) = ⟨[c].toArray⟩ := by
  rw [empty_is]; exact tok_snoc [] c
theorem LpI.intro {c : Lx} {P : Params} {g' : Heap} {L' FIT MO : Nat} {s : Shared} {K : Int} {Rd : List Nat → List Nat → Prop} {h : Heap} {tk : Nat} {m : Str → Option Value} {tf t1 : Tok} {ln : Int} {vs : List Value} {n : Nat} {chv : Option Value} {tt : Tok} (acc cs' : List Nat)
    (F : Fr g' L' h m) (e : m = mkM chv ⟨acc.toArray⟩ tt FIT c.X) (N : News g' L' h (c.led2 P FIT MO tf t1 ln vs n)) (hs : Signs vs cs'.reverse) (hr : Rd acc cs') (hb : bumps cs' ln = K) (hl : acc.length + cs'.length ≤ 1000000) :
    LpI c P g' L' FIT MO s K Rd cs'.length { s with heap := h, toks := tk } :=
  ⟨acc, cs', vs, n, t1, ln, h, tk, chv, tt, tf, rfl, e ▸ F, N, hs, hr, hb, hl, rfl⟩
theorem again_of {I : Nat → Shared → Prop} {n : Nat} {s : Shared} (m : Nat) (hI : I m s) (h : m < n) : Again I n s := ⟨m, h, hI⟩
theorem mk_tokS {v : Value} {chv : Option Value} {acc : List Nat} {d : Nat} {tt tt' : Tok} {FIT X : Addr} :
    (fun y => if y = Str.ofString "token" then some (.str ((⟨acc.toArray⟩ : Str) ++ (⟨#[d]⟩ : Str)) tt') else if y = Str.ofString "ch" then some v else mkM chv ⟨acc.toArray⟩ tt FIT X y) = mkM (some v) ⟨(acc ++ [d]).toArray⟩ tt' FIT X := by
  rw [tok_snoc]; exact mk_tok
theorem mk_tokS2 {v v' : Value} {chv : Option Value} {acc : List Nat} {d : Nat} {tt tt' : Tok} {FIT X : Addr} :
    (fun y => if y = Str.ofString "token" then some (.str ((⟨acc.toArray⟩ : Str) ++ (⟨#[d]⟩ : Str)) tt') else if y = Str.ofString "ch" then some v' else if y = Str.ofString "ch" then some v else mkM chv ⟨acc.toArray⟩ tt FIT X y) = mkM (some v') ⟨(acc ++ [d]).toArray⟩ tt' FIT X := by
  rw [tok_snoc]; exact mk_tok2
theorem mk_tokF {v : Value} {chv : Option Value} {d : Nat} {t0 : Str} {tt tt' : Tok} {FIT X : Addr} :
    (fun y => if y = Str.ofString "token" then some (.str (Str.ofString "" ++ (⟨#[d]⟩ : Str)) tt') else if y = Str.ofString "ch" then some v else mkM chv t0 tt FIT X y) = mkM (some v) ⟨[d].toArray⟩ tt' FIT X := by
  rw [tok_first]; exact mk_tok
theorem mk_tokF2 {v v' : Value} {chv : Option Value} {d : Nat} {t0 : Str} {tt tt' : Tok} {FIT X : Addr} :
    (fun y => if y = Str.ofString "token" then some (.str (Str.ofString "" ++ (⟨#[d]⟩ : Str)) tt') else if y = Str.ofString "ch" then some v' else if y = Str.ofString "ch" then some v else mkM chv t0 tt FIT X y) = mkM (some v') ⟨[d].toArray⟩ tt' FIT X := by
  rw [tok_first]; exact mk_tok2
theorem lookup2_none {y k1 k2 : Str} {v1 v2 : Value} (h1 : ¬ y = k1) (h2 : ¬ y = k2) : List.lookup y [(k1, v1), (k2, v2)] = none := by
  rw [List.lookup_cons, beq_eq_false_iff_ne.mpr h1]; exact lookup1_none h2
theorem lookup3_none {y k1 k2 k3 : Str} {v1 v2 v3 : Value} (h1 : ¬ y = k1) (h2 : ¬ y = k2) (h3 : ¬ y = k3) : List.lookup y [(k1, v1), (k2, v2), (k3, v3)] = none := by
  rw [List.lookup_cons, beq_eq_false_iff_ne.mpr h1]; exact lookup2_none h2 h3
theorem lookup4_none {y k1 k2 k3 k4 : Str} {v1 v2 v3 v4 : Value} (h1 : ¬ y = k1) (h2 : ¬ y = k2) (h3 : ¬ y = k3) (h4 : ¬ y = k4) : List.lookup y [(k1, v1), (k2, v2), (k3, v3), (k4, v4)] = none := by
  rw [List.lookup_cons, beq_eq_false_iff_ne.mpr h1]; exact lookup3_none h2 h3 h4
end Mine
end
section
open PySem PySem.W PyProof.Rows PySem.Calls
set_option Elab.async false
set_option compiler.extract_closed false
namespace Mine
set_option maxRecDepth 100000
set_option maxHeartbeats 8000000
set_option pp.deepTerms true

namespace HG1
theorem k_call_builtin_iter {P : Prop} (h : Halt P) : P := h
theorem k_exec_For_Name_Name_cons_nil {M : Model} {A : Around} {E : Value → Shared → Prop} {s : Shared} {env : Env} {x : Str} {p q r : Pos} {b : List Stmt} {Q : Flow → Shared → Prop} (h : Halt (wpAny M A (exec (.For (.Name x p) (.Name (Str.ofString "fiter") q) b [] r) env) Q E s)) : wpAny M A (exec (.For (.Name x p) (.Name (Str.ofString "fiter") q) b [] r) env) Q E s := h
theorem k_call_ref {M : Model} {A : Around} {E : Value → Shared → Prop} {s : Shared} {p : List Value} {kw : List (Str × Value)} {Q : Value → Shared → Prop} (h : Halt (wpAny M A (call (.ref 42) p kw) Q E s)) : wpAny M A (call (.ref 42) p kw) Q E s := h
end HG1
open HG1
theorem share {C : Prop} {G : Shared → Prop} (J : Shared → Prop) (rest : (∀ s, J s → G s) → C) (loop : ∀ s, J s → G s) : C := rest loop
theorem share_use {J G : Shared → Prop} {s₁ s₂ : Shared} (again : ∀ s, J s → G s) (e : s₂ = s₁) (h : J s₂) : G s₁ := e ▸ again s₂ h
theorem for_ciQ {prog : Program} {w : World} {A : Around} {s : Shared} {env : Env} {it : Addr} {x : Str} {px pos : Pos} {iter : Expr} {body : List Stmt} {Q : Flow → Shared → Prop} (I : Nat → Shared → Prop) (n : Nat)
    (hiter : wpAny (model prog w) A (eval iter env) (fun v s₁ => wpAny (model prog w) A (pyIter v) (fun it' s₂ => it' = .ref it ∧ I n s₂) (fun _ _ => False) s₁) (fun _ _ => False) s)
    (turn : ∀ Q' : Flow → Shared → Prop, (∀ v s', Q (.ret v) s' → Q' (.ret v) s') → (∀ s', Q .next s' → Q' .brk s') → ∀ n s, I n s → (∀ s', Again I n s' → Q' .next s') → (∀ s', Again I n s' → Q' .cont s') →
      wpAny (model prog w) A (pyNext (.ref it)) (fun r s₁ => match r with
        | none => Q .next s₁
        | some v => wpAny (model prog w) A (storeName env x v) (fun _ s₂ => wpAny (model prog w) A (execs body env) Q' (fun _ _ => False) s₂) (fun _ _ => False) s₁) (fun _ _ => False) s)
    (hs : ∀ x, foldedSetIterable iter env x = pure x := by intro _; rfl) :
    wpAny (model prog w) A (exec (.For (.Name x px) iter body [] pos) env) Q (fun _ _ => False) s :=
  for_ci I n hiter (fun n s h => wpAny_mono (turn (fun f s₃ => match f with
      | .next | .cont => Again I n s₃
      | .brk => Q .next s₃
      | .ret v => Q (.ret v) s₃) (fun _ _ h => h) (fun _ h => h) n s h (fun _ h => h) (fun _ h => h)) (fun r s₁ h₁ => by cases r <;> exact h₁) fun _ _ e => e) hs
theorem c_tok (w : World) (p : Program) (loose : List Str) (mean : ExcName → Option Value) (mg mb : Str → Option Value) (c : Lx) (ok : c.Ok) (t1 : Tok) (ln : Int) (vs : List Value) (n : Nat) (cs tok rest : List Nat) (hsg : Signs vs cs.reverse) (hrd : RdA cs tok rest) (hlen : cs.length ≤ 1000000) :
  ∀ (dp un : Nat) (gd : Option (List Code)) (env : Env) (outer : List Env) (A₀ : Around) (base h₀ : Heap) (L : Addr) (m : Str → Option Value) (s : Shared) (R : Result → Shared → Prop),
    Below A₀ base outer h₀ → Fr h₀ L s.heap m → (hd.heap_39 w.params).In h₀ → 
    News h₀ L s.heap ((c.PB, listOf #[] c.pbn) :: c.led w.params t1 ln vs n) → Top p loose mean mg mb h₀ → CodeHd base 86 82 → env.frame = some L → env.scope.kind = .function → 
    dp + 9 < recursionLimit → un + 100 < cLine →
    (∀ h' tk' t1' ln' vs' n' tt, (∀ b o, s.heap.get? b = some o → b ∉ [c.DX, c.SG] → h'.get? b = some o) → Led h' [(c.DX, c.dx w.params t1' ln'), (c.SG, listOf vs'.toArray n')] → Signs vs' rest.reverse → bumps rest ln' = bumps cs ln → R (.ok (.ret (.str ⟨tok.toArray⟩ tt))) { s with heap := h', toks := tk' }) →
      codeAny (model Mine.rwv.row.prog w) (tA dp un gd env outer) (.call (.ref 49) ⟨[.ref c.X], []⟩) R s := by
  k_fill
  have ok' := ok
  obtain ⟨hcell, hco, hcq, hord⟩ := ok'
  intro dp un gd env outer A₀ base h₀ L m s R B F X₀ N T C hf hke hdp hun hret
  (refine' my_enter ?k1 ?k2 ?k3 ?k4 ?k5 ?kA ?kF ?kK ?k6 ?kd ?k7 ?k8 ?k9 ?kB ?_ ?c2 ?c3 ?c4 ?c5; (case kA => rfl); (case kF => assumption); (case kK => assumption); (case k1 => k_asm); (case k2 => k_asm); (case k3 => k_asm); (case k4 => k_asm); (case k5 => k_asm); (case k6 => (first | exact Frag.In.keeps (by k_asm) (Fr.keep (by k_asm)) _ _ (by k_is))); (case kd => rfl); (case k7 => exact codeRec_of (Frag.In.keeps (by k_asm) (Fr.keep (by k_asm))) (by k_is)); (case k8 => ktr_room); (case k9 => exact BindsTo.of_eq rfl); (case c2 => decide); (case kB => exact locs rfl); (case c3 => exact rfl); (case c4 => exact rfl); (case c5 => exact rfl); k_whole; intro g' L' h1 kg' F' N' B' X' T' l1; (try k_lt l1); (try dsimp only); (try k_lift B'); (try k_fold))
  k_steps
  refine Halt.un ?_
  (k_dflt (refine' iter2_K (by k_asm) (by k_asm) (by k_mem) ?_); intro FIT _ _ _ l3; (try k_lt l3))
  k_steps
  rename_i MO _ l2 _ hA F9 N9
  have o1 : @LT.lt Nat _ c.PB MO := by omega
  have o2 : @LT.lt Nat _ MO FIT := by omega
  have o3 : dp + 1 + 8 < recursionLimit := hdp
  have o4 : un + 3 + 91 < cLine := Nat.lt_of_le_of_lt (Nat.add_le_add_left (show 94 ≤ 100 by decide) un) hun
  clear hord l2 l3 hdp hun
  have F8 := fr_eq (m' := mkM none (Str.ofString "") _ FIT c.X) F9 (by
    funext y
    dsimp only [mkM]
    by_cases h1 : y = Str.ofString "ch"
    · subst h1; rfl
    · rw [if_neg h1]
      by_cases h2 : y = Str.ofString "token"
      · subst h2; rfl
      · by_cases h3 : y = Str.ofString "fiter"
        · subst h3; rfl
        · rw [if_neg h2, if_neg h3, if_neg h3, if_neg h2]
          by_cases h4 : y = Str.ofString "self"
          · subst h4; rfl
          · rw [if_neg h4]
            exact lookup1_none h4)
  clear F9
  rw [empty_is] at F8
  refine for_ciQ (it := FIT) (LpI c w.params g' L' FIT MO s (bumps cs ln) fun acc cs' => acc = [] ∧ RdA cs' tok rest) cs.length ?iter ?turn
  case iter =>
    refine nameX_L F8 rfl ?_
    exact pyIter_ci (News.get N9 (by k_mem)) ⟨rfl, [], cs, vs, n, t1, ln, _, _, _, _, _, rfl, F8, N9, hsg, ⟨rfl, hrd⟩, rfl, by simpa using hlen, rfl⟩
  case turn =>
    clear F8 N9 l1
    intro Q1 rr rb
    apply share (fun s' => ∃ n, LpI c w.params g' L' FIT MO s (bumps cs ln) (fun acc cs' => RdC acc cs' tok rest) n s')
    case rest =>
     intro again
     rintro k _ ⟨acc, cs', vs', n', t1', ln', h', tk', chv, tt, tf, rfl, F6, N6, hs6, ⟨rfl, hr6⟩, hb6, hl6, rfl⟩ rn rc
     cases hr6 with
     | nil =>
       have hs7 : Signs vs' [] := hs6
       cases hs7
       refine next_end w p loose mean mg mb c ok t1' ln' n' FIT MO tf o1 o2 (dp + 1) (un + 3) _ _ _ _ _ _ _ _ _ _ _ B' F6 X' N6 T' C rfl rfl o3 o4 ?_
       intro h2 tk2 F2 N2
       clear F6 N6
       dsimp only
       k_steps
       dsimp only
       refine hret _ _ _ _ _ _ _ (keep_of [c.DX, c.SG] kg' F2 N N2 (by (repeat (first | exact List.forall_mem_nil _ | (refine List.forall_mem_cons.mpr ⟨?km, ?_⟩; (case km => first | exact .inl (by k_mem) | exact .inr (by k_mem))))))) (List.forall_mem_cons.mpr ⟨News.get N2 (by k_mem), List.forall_mem_cons.mpr ⟨News.get N2 (by k_mem), fun _ h => nomatch h⟩⟩) .nil hb6
     | ws c0 cs1 t r hw hr =>
       obtain ⟨us, uc, rfl, hs7⟩ := signs_snoc hs6
       have hl7 : us.length ≤ 1000000 := by clear again o1 o2 o3 o4; have := hs7.length; simp at this hl6; omega
       refine next_read w p loose mean mg mb c ok t1' ln' us c0 uc n' FIT MO tf (small_fits hl7) o1 o2 (dp + 1) (un + 3) _ _ _ _ _ _ _ _ _ _ _ B' F6 X' N6 T' C rfl rfl o3 o4 ?_
       intro h2 tk2 t2 F2 N2
       clear F6 N6
       have w1 := ws_t hw
       have w2 := ws_t' hw
       dsimp only
       k_steps
       dsimp only
       rename Fr _ _ _ _ => F5
       rename News _ _ _ _ => N5
       exact rc _ (again_of _ (LpI.intro [] cs1 F5 mk_ch N5 hs7 ⟨rfl, hr⟩ hb6 (by clear again o1 o2 o3 o4; simp at hl6 ⊢; omega)) (by first | exact Nat.lt_succ_self _ | exact Nat.lt_succ_of_lt (Nat.lt_succ_self _)))
     | quot cs1 t r hr =>
       generalize hc0 : (34 : Nat) = c0 at hs6 hb6 hl6
       obtain ⟨us, uc, rfl, hs7⟩ := signs_snoc hs6
       have hl7 : us.length ≤ 1000000 := by clear again o1 o2 o3 o4; have := hs7.length; simp at this hl6; omega
       refine next_read w p loose mean mg mb c ok t1' ln' us c0 uc n' FIT MO tf (small_fits hl7) o1 o2 (dp + 1) (un + 3) _ _ _ _ _ _ _ _ _ _ _ B' F6 X' N6 T' C rfl rfl o3 o4 ?_
       intro h2 tk2 t2 F2 N2
       clear F6 N6
       have w1 := ws_f (c := c0) (by subst hc0; rfl)
       have w2 := ws_f' (c := c0) (by subst hc0; rfl)
       have w3 : ((⟨#[c0]⟩ : Str) == Str.ofString "\"") = true := by subst hc0; exact q_t
       dsimp only
       k_steps
       clear w1 w2 w3 hc0
       rename Fr _ _ _ _ => F5
       rename News _ _ _ _ => N5
       unfold Halt
       refine for_ciQ (it := FIT) (LpI c w.params g' L' FIT MO s (bumps cs ln) fun acc cs' => RdB acc cs' tok rest) cs1.length ?iterB1 ?turnB1
       case iterB1 =>
         refine nameX_L F5 rfl ?_
         exact pyIter_ci (News.get N5 (by k_mem)) ⟨rfl, LpI.intro [] cs1 F5 mk_ch N5 hs7 hr hb6 (by clear again o1 o2 o3 o4; simp at hl6 ⊢; omega)⟩
       case turnB1 =>
         clear F5 N5
         rintro Q2 qr qb k _ ⟨acc, cs', vs', n', t1', ln', h', tk', chv, tt, tf, rfl, F6, N6, hs6, hr6, hb6, hl6, rfl⟩ qn qc
         cases hr6 with
         | fin =>
           generalize hc0 : (34 : Nat) = c0 at hs6 hb6 hl6
           obtain ⟨us, uc, rfl, hs7⟩ := signs_snoc hs6
           have hl7 : us.length ≤ 1000000 := by clear again o1 o2 o3 o4; have := hs7.length; simp at this hl6; omega
           refine next_read w p loose mean mg mb c ok t1' ln' us c0 uc n' FIT MO tf (small_fits hl7) o1 o2 (dp + 1) (un + 3) _ _ _ _ _ _ _ _ _ _ _ B' F6 X' N6 T' C rfl rfl o3 o4 ?_
           intro h2 tk2 t2 F2 N2
           clear F6 N6
           have v3 : ((⟨#[c0]⟩ : Str) == Str.ofString "\"") = true := by subst hc0; exact q_t
           try dsimp only
           k_steps
           try dsimp only
           rename Fr _ _ _ _ => F5
           rename News _ _ _ _ => N5
           refine qr _ _ (rr _ _ ?_)
           try dsimp only
           refine hret _ _ _ _ _ _ _ (keep_of [c.DX, c.SG] kg' F5 N N5 (by (repeat (first | exact List.forall_mem_nil _ | (refine List.forall_mem_cons.mpr ⟨?km, ?_⟩; (case km => first | exact .inl (by k_mem) | exact .inr (by k_mem))))))) (List.forall_mem_cons.mpr ⟨News.get N5 (by k_mem), List.forall_mem_cons.mpr ⟨News.get N5 (by k_mem), fun _ h => nomatch h⟩⟩) hs7 hb6
         | esc _ d cs2 _ _ hr9 =>
           generalize hc0 : (92 : Nat) = c0 at hs6 hb6 hl6
           obtain ⟨us, uc, rfl, hs7⟩ := signs_snoc hs6
           have hl7 : us.length ≤ 1000000 := by clear again o1 o2 o3 o4; have := hs7.length; simp at this hl6; omega
           refine next_read w p loose mean mg mb c ok t1' ln' us c0 uc n' FIT MO tf (small_fits hl7) o1 o2 (dp + 1) (un + 3) _ _ _ _ _ _ _ _ _ _ _ B' F6 X' N6 T' C rfl rfl o3 o4 ?_
           intro h2 tk2 t2 F2 N2
           clear F6 N6
           have v3 := q_f (c := c0) (by subst hc0; decide)
           have v4 : ((⟨#[c0]⟩ : Str) == Str.ofString "\\") = true := by subst hc0; exact b_t
           try dsimp only
           k_steps
           obtain ⟨us2, uc2, rfl, hs8⟩ := signs_snoc hs7
           have hl8 : us2.length ≤ 1000000 := by clear again o1 o2 o3 o4; have := hs8.length; simp at this hl6; omega
           rename Fr _ _ _ _ => F5
           rename News _ _ _ _ => N5
           unfold Halt
           try dsimp only [List.cons_append, List.nil_append]
           refine call_read w p loose mean mg mb c ok t2 _ us2 d uc2 (n' + 1) FIT MO tf (small_fits hl8) o1 o2 (dp + 1) (un + 3) _ _ _ _ _ _ _ _ _ _ _ B' F5 X' N5 T' C rfl rfl o3 o4 ?_
           intro h3 tk3 t3 F3 N3
           clear F5 N5
           try dsimp only
           k_steps
           try dsimp only
           rename Fr _ _ _ _ => F5
           rename News _ _ _ _ => N5
           exact qn _ (again_of _ (LpI.intro (acc ++ [d]) cs2 F5 mk_tokS2 N5 hs8 hr9 hb6 (by clear again o1 o2 o3 o4; simp at hl6 ⊢; omega)) (by first | exact Nat.lt_succ_self _ | exact Nat.lt_succ_of_lt (Nat.lt_succ_self _)))
         | other _ c0 cs2 _ _ hq9 hb9 hr9 =>
           obtain ⟨us, uc, rfl, hs7⟩ := signs_snoc hs6
           have hl7 : us.length ≤ 1000000 := by clear again o1 o2 o3 o4; have := hs7.length; simp at this hl6; omega
           refine next_read w p loose mean mg mb c ok t1' ln' us c0 uc n' FIT MO tf (small_fits hl7) o1 o2 (dp + 1) (un + 3) _ _ _ _ _ _ _ _ _ _ _ B' F6 X' N6 T' C rfl rfl o3 o4 ?_
           intro h2 tk2 t2 F2 N2
           clear F6 N6
           have v3 := q_f hq9
           have v4 := b_f hb9
           try dsimp only
           k_steps
           try dsimp only
           rename Fr _ _ _ _ => F5
           rename News _ _ _ _ => N5
           exact qn _ (again_of _ (LpI.intro (acc ++ [c0]) cs2 F5 mk_tokS N5 hs7 hr9 hb6 (by clear again o1 o2 o3 o4; simp at hl6 ⊢; omega)) (by first | exact Nat.lt_succ_self _ | exact Nat.lt_succ_of_lt (Nat.lt_succ_self _)))
     | esc d cs1 t r hr =>
       generalize hc0 : (92 : Nat) = c0 at hs6 hb6 hl6
       obtain ⟨us, uc, rfl, hs7⟩ := signs_snoc hs6
       have hl7 : us.length ≤ 1000000 := by clear again o1 o2 o3 o4; have := hs7.length; simp at this hl6; omega
       refine next_read w p loose mean mg mb c ok t1' ln' us c0 uc n' FIT MO tf (small_fits hl7) o1 o2 (dp + 1) (un + 3) _ _ _ _ _ _ _ _ _ _ _ B' F6 X' N6 T' C rfl rfl o3 o4 ?_
       intro h2 tk2 t2 F2 N2
       clear F6 N6
       have w1 := ws_f (c := c0) (by subst hc0; rfl)
       have w2 := ws_f' (c := c0) (by subst hc0; rfl)
       have w3 := q_f (c := c0) (by subst hc0; decide)
       have w4 : ((⟨#[c0]⟩ : Str) == Str.ofString "\\") = true := by subst hc0; exact b_t
       dsimp only
       k_steps
       obtain ⟨us2, uc2, rfl, hs8⟩ := signs_snoc hs7
       have hl8 : us2.length ≤ 1000000 := by clear again o1 o2 o3 o4; have := hs8.length; simp at this hl6; omega
       rename Fr _ _ _ _ => F5
       rename News _ _ _ _ => N5
       unfold Halt
       try dsimp only [List.cons_append, List.nil_append]
       refine call_read w p loose mean mg mb c ok t2 _ us2 d uc2 (n' + 1) FIT MO tf (small_fits hl8) o1 o2 (dp + 1) (un + 3) _ _ _ _ _ _ _ _ _ _ _ B' F5 X' N5 T' C rfl rfl o3 o4 ?_
       intro h3 tk3 t3 F3 N3
       clear F5 N5
       dsimp only
       k_steps
       clear w1 w2 w3 w4 hc0
       rename Fr _ _ _ _ => F5
       rename News _ _ _ _ => N5
       unfold Halt
       generalize hS : ({ s with heap := _, toks := _ } : Shared) = s1
       exact share_use again hS ⟨_, LpI.intro [d] cs1 F5 mk_tokF2 N5 hs8 hr hb6 (by clear again o1 o2 o3 o4; simp at hl6 ⊢; omega)⟩
     | other c0 cs1 t r hw hq hb hr =>
       obtain ⟨us, uc, rfl, hs7⟩ := signs_snoc hs6
       have hl7 : us.length ≤ 1000000 := by clear again o1 o2 o3 o4; have := hs7.length; simp at this hl6; omega
       refine next_read w p loose mean mg mb c ok t1' ln' us c0 uc n' FIT MO tf (small_fits hl7) o1 o2 (dp + 1) (un + 3) _ _ _ _ _ _ _ _ _ _ _ B' F6 X' N6 T' C rfl rfl o3 o4 ?_
       intro h2 tk2 t2 F2 N2
       clear F6 N6
       have w1 := ws_f hw
       have w2 := ws_f' hw
       have w3 := q_f hq
       have w4 := b_f hb
       dsimp only
       k_steps
       clear w1 w2 w3 w4
       rename Fr _ _ _ _ => F5
       rename News _ _ _ _ => N5
       unfold Halt
       generalize hS : ({ s with heap := _, toks := _ } : Shared) = s1
       exact share_use again hS ⟨_, LpI.intro [c0] cs1 F5 mk_tokF N5 hs7 hr hb6 (by clear again o1 o2 o3 o4; simp at hl6 ⊢; omega)⟩
    rintro s1 ⟨k1, hI⟩
    refine for_ciQ (it := FIT) (LpI c w.params g' L' FIT MO s (bumps cs ln) fun acc cs' => RdC acc cs' tok rest) k1 ?iterC1 ?turnC1
    case iterC1 =>
      obtain ⟨acc1, cs3, vs3, n3, t3, ln3, h3, tk3, chv3, tt3, tf3, rfl, F5, N5, hs3, hr3, hb3, hl3, rfl⟩ := hI
      refine nameX_L F5 rfl ?_
      exact pyIter_ci (News.get N5 (by k_mem)) ⟨rfl, acc1, cs3, vs3, n3, t3, ln3, h3, tk3, chv3, tt3, tf3, rfl, F5, N5, hs3, hr3, hb3, hl3, rfl⟩
    case turnC1 =>
      clear hI
      rintro Q2 qr qb k _ ⟨acc, cs', vs', n', t1', ln', h', tk', chv, tt, tf, rfl, F6, N6, hs6, hr6, hb6, hl6, rfl⟩ qn qc
      cases hr6 with
      | fin _ c0 _ hw9 =>
        obtain ⟨us, uc, rfl, hs7⟩ := signs_snoc hs6
        have hl7 : us.length ≤ 1000000 := by clear o1 o2 o3 o4; have := hs7.length; simp at this hl6; omega
        refine next_read w p loose mean mg mb c ok t1' ln' us c0 uc n' FIT MO tf (small_fits hl7) o1 o2 (dp + 1) (un + 3) _ _ _ _ _ _ _ _ _ _ _ B' F6 X' N6 T' C rfl rfl o3 o4 ?_
        intro h2 tk2 t2 F2 N2
        clear F6 N6
        have v1 := ws_t hw9
        have v2 := ws_t' hw9
        try dsimp only
        k_steps
        try dsimp only
        rename Fr _ _ _ _ => F5
        rename News _ _ _ _ => N5
        refine qr _ _ (rr _ _ ?_)
        try dsimp only
        refine hret _ _ _ _ _ _ _ (keep_of [c.DX, c.SG] kg' F5 N N5 (by (repeat (first | exact List.forall_mem_nil _ | (refine List.forall_mem_cons.mpr ⟨?km, ?_⟩; (case km => first | exact .inl (by k_mem) | exact .inr (by k_mem))))))) (List.forall_mem_cons.mpr ⟨News.get N5 (by k_mem), List.forall_mem_cons.mpr ⟨News.get N5 (by k_mem), fun _ h => nomatch h⟩⟩) hs7 hb6
      | esc _ d cs2 _ _ hr9 =>
        generalize hc0 : (92 : Nat) = c0 at hs6 hb6 hl6
        obtain ⟨us, uc, rfl, hs7⟩ := signs_snoc hs6
        have hl7 : us.length ≤ 1000000 := by clear o1 o2 o3 o4; have := hs7.length; simp at this hl6; omega
        refine next_read w p loose mean mg mb c ok t1' ln' us c0 uc n' FIT MO tf (small_fits hl7) o1 o2 (dp + 1) (un + 3) _ _ _ _ _ _ _ _ _ _ _ B' F6 X' N6 T' C rfl rfl o3 o4 ?_
        intro h2 tk2 t2 F2 N2
        clear F6 N6
        have v1 := ws_f (c := c0) (by subst hc0; rfl)
        have v2 := ws_f' (c := c0) (by subst hc0; rfl)
        have v4 : ((⟨#[c0]⟩ : Str) == Str.ofString "\\") = true := by subst hc0; exact b_t
        try dsimp only
        k_steps
        obtain ⟨us2, uc2, rfl, hs8⟩ := signs_snoc hs7
        have hl8 : us2.length ≤ 1000000 := by clear o1 o2 o3 o4; have := hs8.length; simp at this hl6; omega
        rename Fr _ _ _ _ => F5
        rename News _ _ _ _ => N5
        unfold Halt
        try dsimp only [List.cons_append, List.nil_append]
        refine call_read w p loose mean mg mb c ok t2 _ us2 d uc2 (n' + 1) FIT MO tf (small_fits hl8) o1 o2 (dp + 1) (un + 3) _ _ _ _ _ _ _ _ _ _ _ B' F5 X' N5 T' C rfl rfl o3 o4 ?_
        intro h3 tk3 t3 F3 N3
        clear F5 N5
        try dsimp only
        k_steps
        try dsimp only
        rename Fr _ _ _ _ => F5
        rename News _ _ _ _ => N5
        exact qn _ (again_of _ (LpI.intro (acc ++ [d]) cs2 F5 mk_tokS2 N5 hs8 hr9 hb6 (by clear o1 o2 o3 o4; simp at hl6 ⊢; omega)) (by first | exact Nat.lt_succ_self _ | exact Nat.lt_succ_of_lt (Nat.lt_succ_self _)))
      | other _ c0 cs2 _ _ hw9 hb9 hr9 =>
        obtain ⟨us, uc, rfl, hs7⟩ := signs_snoc hs6
        have hl7 : us.length ≤ 1000000 := by clear o1 o2 o3 o4; have := hs7.length; simp at this hl6; omega
        refine next_read w p loose mean mg mb c ok t1' ln' us c0 uc n' FIT MO tf (small_fits hl7) o1 o2 (dp + 1) (un + 3) _ _ _ _ _ _ _ _ _ _ _ B' F6 X' N6 T' C rfl rfl o3 o4 ?_
        intro h2 tk2 t2 F2 N2
        clear F6 N6
        have v1 := ws_f hw9
        have v2 := ws_f' hw9
        have v4 := b_f hb9
        try dsimp only
        k_steps
        try dsimp only
        rename Fr _ _ _ _ => F5
        rename News _ _ _ _ => N5
        exact qn _ (again_of _ (LpI.intro (acc ++ [c0]) cs2 F5 mk_tokS N5 hs7 hr9 hb6 (by clear o1 o2 o3 o4; simp at hl6 ⊢; omega)) (by first | exact Nat.lt_succ_self _ | exact Nat.lt_succ_of_lt (Nat.lt_succ_self _)))
end Mine
end
section
open PySem PySem.W PyProof.Rows PySem.Calls
set_option Elab.async false
set_option compiler.extract_closed false
namespace Mine
set_option maxRecDepth 100000
set_option maxHeartbeats 8000000

theorem c_tokP (w : World) (p : Program) (loose : List Str) (mean : ExcName → Option Value) (mg mb : Str → Option Value) (X DX PB : Nat) (k1 k2 k3 k4 t1 t3 : Tok) (ln : Int) (ins : Value) (y : Value) (us : List Value) (n : Nat) (hz : us.length < sizeLine) (ho : DX < X ∧ X < PB) :
  ∀ (dp un : Nat) (gd : Option (List Code)) (env : Env) (outer : List Env) (A₀ : Around) (base h₀ : Heap) (L : Addr) (m : Str → Option Value) (s : Shared) (R : Result → Shared → Prop),
    Below A₀ base outer h₀ → Fr h₀ L s.heap m → (hd.heap_39 w.params).In h₀ → 
    News h₀ L s.heap [(PB, listOf (y :: us).toArray n), (X, instObj 59 DX), (DX, lexDict w.params k1 k2 k3 k4 t1 t3 ln ins PB)] → Top p loose mean mg mb h₀ → env.frame = some L → env.scope.kind = .function → 
    dp + 9 < recursionLimit → un + 100 < cLine →
    (∀ h' tk', (∀ b o, s.heap.get? b = some o → b ∉ [PB] → h'.get? b = some o) → Led h' [(PB, listOf us.toArray (n + 1))] → R (.ok (.ret y)) { s with heap := h', toks := tk' }) →
      codeAny (model Mine.rwv.row.prog w) (tA dp un gd env outer) (.call (.ref 49) ⟨[.ref X], []⟩) R s := by
  k_fill
  intro dp un gd env outer A₀ base h₀ L m s R B F X₀ N T hf hke hdp hun hret
  k_dflt (refine' my_enter ?k1 ?k2 ?k3 ?k4 ?k5 ?kA ?kF ?kK ?k6 ?kd ?k7 ?k8 ?k9 ?kB ?_ ?c2 ?c3 ?c4 ?c5; (case kA => rfl); (case kF => assumption); (case kK => assumption); (case k1 => k_asm); (case k2 => k_asm); (case k3 => k_asm); (case k4 => k_asm); (case k5 => k_asm); (case k6 => (first | exact Frag.In.keeps (by k_asm) (Fr.keep (by k_asm)) _ _ (by k_is))); (case kd => rfl); (case k7 => exact codeRec_of (Frag.In.keeps (by k_asm) (Fr.keep (by k_asm))) (by k_is)); (case k8 => ktr_room); (case k9 => exact BindsTo.of_eq rfl); (case c2 => decide); (case kB => exact locs rfl); (case c3 => exact rfl); (case c4 => exact rfl); (case c5 => exact rfl); k_whole; intro g' L' h' kg' F' N' B' X' T' l1; (try k_lt l1); (try dsimp only); (try k_lift B'); (try k_fold))
  k_steps
  (try dsimp only)
  refine' hret _ _ ?k ?l
  (case l => exact List.forall_mem_cons.mpr ⟨News.get (by assumption) (by k_mem), fun _ h => nomatch h⟩)
  (case k => exact keep_of [PB] (by assumption) (by assumption) (by assumption) (by assumption) (by (repeat (first | exact List.forall_mem_nil _ | (refine List.forall_mem_cons.mpr ⟨?km, ?_⟩; (case km => first | exact .inl (by k_mem) | exact .inr (by k_mem)))))))

theorem c_push (w : World) (p : Program) (loose : List Str) (mean : ExcName → Option Value) (mg mb : Str → Option Value) (X DX PB : Nat) (k1 k2 k3 k4 t1 t3 : Tok) (ln : Int) (ins : Value) (y : Value) (us : List Value) (n : Nat) (hz : us.length ≤ sizeLine) (ho : DX < X ∧ X < PB) :
  ∀ (dp un : Nat) (gd : Option (List Code)) (env : Env) (outer : List Env) (A₀ : Around) (base h₀ : Heap) (L : Addr) (m : Str → Option Value) (s : Shared) (R : Result → Shared → Prop),
    Below A₀ base outer h₀ → Fr h₀ L s.heap m → (hd.heap_39 w.params).In h₀ → 
    News h₀ L s.heap [(PB, listOf us.toArray n), (X, instObj 59 DX), (DX, lexDict w.params k1 k2 k3 k4 t1 t3 ln ins PB)] → Top p loose mean mg mb h₀ → env.frame = some L → env.scope.kind = .function → 
    dp + 9 < recursionLimit → un + 100 < cLine →
    (∀ h' tk', (∀ b o, s.heap.get? b = some o → b ∉ [PB] → h'.get? b = some o) → Led h' [(PB, listOf (us ++ [y]).toArray (n + 1))] → R (.ok (.ret .none)) { s with heap := h', toks := tk' }) →
      codeAny (model Mine.rwv.row.prog w) (tA dp un gd env outer) (.call (.ref 56) ⟨[.ref X, y], []⟩) R s := by
  k_fill
  intro dp un gd env outer A₀ base h₀ L m s R B F X₀ N T hf hke hdp hun hret
  k_dflt (refine' my_enter ?k1 ?k2 ?k3 ?k4 ?k5 ?kA ?kF ?kK ?k6 ?kd ?k7 ?k8 ?k9 ?kB ?_ ?c2 ?c3 ?c4 ?c5; (case kA => rfl); (case kF => assumption); (case kK => assumption); (case k1 => k_asm); (case k2 => k_asm); (case k3 => k_asm); (case k4 => k_asm); (case k5 => k_asm); (case k6 => (first | exact Frag.In.keeps (by k_asm) (Fr.keep (by k_asm)) _ _ (by k_is))); (case kd => rfl); (case k7 => exact codeRec_of (Frag.In.keeps (by k_asm) (Fr.keep (by k_asm))) (by k_is)); (case k8 => ktr_room); (case k9 => exact BindsTo.of_eq rfl); (case c2 => decide); (case kB => exact locs rfl); (case c3 => exact rfl); (case c4 => exact rfl); (case c5 => exact rfl); k_whole; intro g' L' h' kg' F' N' B' X' T' l1; (try k_lt l1); (try dsimp only); (try k_lift B'); (try k_fold))
  k_steps
  (try dsimp only)
  refine' hret _ _ ?k ?l
  (case l => exact List.forall_mem_cons.mpr ⟨News.get (by assumption) (by k_mem), fun _ h => nomatch h⟩)
  (case k => exact keep_of [PB] (by assumption) (by assumption) (by assumption) (by assumption) (by (repeat (first | exact List.forall_mem_nil _ | (refine List.forall_mem_cons.mpr ⟨?km, ?_⟩; (case km => first | exact .inl (by k_mem) | exact .inr (by k_mem)))))))
end Mine
end
end
end
section
open PySem PySem.W PyProof.Rows PySem.Calls
set_option Elab.async false
set_option compiler.extract_closed false
namespace Mine
set_option maxRecDepth 100000
set_option maxHeartbeats 8000000
namespace HL1
theorem k_call_type_list {P : Prop} (h : Halt P) : P := h
end HL1
open HL1

theorem rev_signs {x : Str} {u : Tok} {vs : List Value} (h : Signs vs (Txt.sliceBy x none none (-1, u)).cps.toList) : Signs vs x.cps.toList.reverse := by
  have e : (Txt.sliceBy x none none (-1, u)).cps.toList = x.cps.toList.reverse := by
    rw [step_rev_list]
    apply List.ext_getElem
    · simp [Str.length]
    · intro i h1 h2
      simp only [List.getElem_map, List.getElem_range, List.getElem_reverse]
      simp only [List.length_map, List.length_range, Str.length] at h1
      rw [Array.getD_eq_getD_getElem?, Array.getElem?_eq_getElem (by simp only [Str.length]; omega)]
      simp [Str.length]
  rw [e] at h; exact h

theorem fresh_of {h g h' : Heap} {L' : Addr} {led0 led : List (Addr × Obj)} (kg : ∀ b o, h.get? b = some o → b ∉ led0.map (·.1) → g.get? b = some o) (N : News g L' h' led) {a : Addr} {o : Obj} (hm : (a, o) ∈ led) (hn : a ∉ led0.map (·.1)) : h.get? a = none := by
  cases q : h.get? a with
  | none => rfl
  | some o' =>
    have := (N _ hm).2.2
    rw [kg a o' q hn] at this; cases this

theorem lexer_end {a0 : Addr} {o0 : Obj} {h₀ : Heap} {L : Addr} {P : Params} {g h : Heap} {s : Shared} {L' : Addr} {R : Result → Shared → Prop} {x : Str} {DX SG X ST DS LAM CELL CO PB PB1 : Nat} {k1 k2 k3 k4 t1 t3 j1 j2 j3 j4 j5 u1 u3 : Tok} {q : Str} {pm ct : Value} {cellO co : Obj} {cvs : Array Value} {qt : Tok} {vs : List Value} {n : Nat} {tk' : Nat} {u0 : Tok} {m' : Str → Option Value} {tab0 : Obj}
    (hret : ∀ (c : Lx) h' tk' t1 vs n, c.Ok → (∀ b o, s.heap.get? b = some o → b ∉ [82] → h'.get? b = some o) → Led h' ((82, tabObj (#[] ++ #[rawInt 118, rawInt 18, .ref c.CO])) :: (c.PB, listOf #[] 0) :: c.led P t1 1 vs n) → a0 < c.CELL → a0 < c.CO →
      (∀ p ∈ (c.PB, listOf #[] 0) :: c.led P t1 1 vs n, s.heap.get? p.1 = none) → Signs vs x.cps.toList.reverse → c.q = Str.ofString "_law_lexer.<locals>.<lambda>" → R (.ok (.ret (.ref c.X))) { s with heap := h', toks := tk' })
    (kg : ∀ b o, s.heap.get? b = some o → b ∉ [(82, tab0), (a0, o0)].map (·.1) → g.get? b = some o) (N0 : News h₀ L s.heap [(82, tab0), (a0, o0)]) (F' : Fr g L' h m')
    (N : News g L' h [(PB, listOf #[] 0), (X, instObj 59 DX), (DX, lexDict P k1 k2 k3 k4 t1 t3 1 (.ref ST) PB), (LAM, lamObj q CELL CO pm ct), (CO, co), (PB1, listOf #[] 0), (ST, instObj 59 DS), (DS, strDict P j1 j2 j3 j4 j5 u1 u3 PB1 LAM), (SG, listOf vs.toArray n), (CELL, cellO), (82, tabObj (#[] ++ #[rawInt 118, rawInt 18, .ref CO])), (a0, o0)])
    (hcell : cellO.data = .cell (some (.ref SG))) (hco : co.data = .fields cvs) (hcq : cvs[1]? = some (.str q qt))
    (ho : 82 < CELL ∧ @LT.lt Nat _ a0 CELL ∧ CELL < SG ∧ SG < DS ∧ DS < ST ∧ ST < PB1 ∧ PB1 < CO ∧ CO < LAM ∧ LAM < DX ∧ DX < X ∧ X < PB)
    (hs : Signs vs (Txt.sliceBy x none none (-1, u0)).cps.toList) (hq : q = Str.ofString "_law_lexer.<locals>.<lambda>") : R (.ok (.ret (.ref X))) { s with heap := h, toks := tk' } := by
  obtain ⟨g1, g2, s1, s2, s3, s4, s5, s6, s7, s8, s9⟩ := ho
  have up : ∀ b : Nat, b < CELL → b < SG ∧ b < DS ∧ b < ST ∧ b < CO ∧ b < LAM ∧ b < DX ∧ b < X ∧ b < PB := fun b h0 =>
    have h1 := Nat.lt_trans h0 s1
    have h2 := Nat.lt_trans h1 s2
    have h3 := Nat.lt_trans h2 s3
    have h4 := Nat.lt_trans h3 (Nat.lt_trans s4 s5)
    have h5 := Nat.lt_trans h4 s6
    have h6 := Nat.lt_trans h5 s7
    have h7 := Nat.lt_trans h6 s8
    ⟨h1, h2, h3, h4, h5, h6, h7, Nat.lt_trans h7 s9⟩
  have key : ∀ (z : Nat) (o : Obj), (z, o) ∈ _ → 82 < z → @LT.lt Nat _ a0 z → s.heap.get? z = none := fun z o hm h1 h2 => fresh_of kg N hm (off2 (Nat.ne_of_gt h1) (Nat.ne_of_gt h2))
  obtain ⟨u1', u2', u3', u4', u5', u6', u7', u8'⟩ := up 82 g1
  obtain ⟨v1', v2', v3', v4', v5', v6', v7', v8'⟩ := up a0 g2
  refine hret { DX, SG, X, ST, DS, LAM, CELL, CO, PB, PB1, k1, k2, k3, k4, t3, j1, j2, j3, j4, j5, u1, u3, q, pm, ct, cellO, co, cvs, qt } h tk' t1 vs n ⟨hcell, hco, hcq, s1, s2, s3, Nat.lt_trans s4 (Nat.lt_trans s5 s6), .inr ⟨Nat.lt_trans s4 s5, s6⟩, s7, s8, s9⟩ (keep_of [82] kg F' N0 N (List.forall_mem_cons.mpr ⟨.inl (.head _), List.forall_mem_cons.mpr ⟨.inr (by k_mem), List.forall_mem_nil _⟩⟩)) ?_ g2 v4' ?_ (rev_signs hs) hq
  · repeat (first | exact List.forall_mem_nil _ | (refine List.forall_mem_cons.mpr ⟨News.get N ?km, ?_⟩; (case km => k_mem)))
  · refine' List.forall_mem_cons.mpr ⟨key _ _ ?km u8' v8', List.forall_mem_cons.mpr ⟨key _ _ ?km2 u6' v6', List.forall_mem_cons.mpr ⟨key _ _ ?km3 u1' v1', List.forall_mem_cons.mpr ⟨key _ _ ?km4 u7' v7', List.forall_mem_cons.mpr ⟨key _ _ ?km5 u3' v3', List.forall_mem_cons.mpr ⟨key _ _ ?km6 u2' v2',
      List.forall_mem_cons.mpr ⟨key _ _ ?km7 u5' v5', List.forall_mem_cons.mpr ⟨key _ _ ?km8 g1 g2, List.forall_mem_cons.mpr ⟨key _ _ ?km9 u4' v4', List.forall_mem_nil _⟩⟩⟩⟩⟩⟩⟩⟩⟩
    case km => k_mem
    case km2 => k_mem
    case km3 => k_mem
    case km4 => k_mem
    case km5 => k_mem
    case km6 => k_mem
    case km7 => k_mem
    case km8 => k_mem
    case km9 => k_mem

theorem c_lexer (w : World) (p : Program) (loose : List Str) (mean : ExcName → Option Value) (mg mb : Str → Option Value) 
   (a0 : Addr) (o0 : Obj) (h82 : @LT.lt Nat _ 82 a0) (x : Str) (tx : Tok) (hx : x.length ≤ sizeLine):
  ∀ (dp un : Nat) (gd : Option (List Code)) (env : Env) (outer : List Env) (A₀ : Around) (base h₀ : Heap) (L : Addr) (m : Str → Option Value) (s : Shared) (R : Result → Shared → Prop),
    Below A₀ base outer h₀ → Fr h₀ L s.heap m → (hd.heap_39 w.params).In h₀ → News h₀ L s.heap [(82, tabObj #[]), (a0, o0)] → Top p loose mean mg mb h₀ → CodeHd base 86 82 → env.frame = some L → env.scope.kind = .function → 
    dp + 8 < recursionLimit → un + 90 < cLine → 
    (∀ (c : Lx) h' tk' t1 vs n, c.Ok → (∀ b o, s.heap.get? b = some o → b ∉ [82] → h'.get? b = some o) → Led h' ((82, tabObj (#[] ++ #[rawInt 118, rawInt 18, .ref c.CO])) :: (c.PB, listOf #[] 0) :: c.led w.params t1 1 vs n) → a0 < c.CELL → a0 < c.CO →
      (∀ p ∈ (c.PB, listOf #[] 0) :: c.led w.params t1 1 vs n, s.heap.get? p.1 = none) → Signs vs x.cps.toList.reverse → c.q = Str.ofString "_law_lexer.<locals>.<lambda>" → R (.ok (.ret (.ref c.X))) { s with heap := h', toks := tk' }) →
      codeAny (model Mine.rwv.row.prog w) (tA dp un gd env outer) (.call (.ref 87) ⟨[.str x tx], []⟩) R s := by
  k_fill
  intro dp un gd env outer A₀ base h₀ L m s R B F X₀ N T C hf hke hdp hun hret
  (refine' my_enterC ?k1 ?k2 ?k3 ?k4 ?k5 ?kA ?kF ?kK ?k6 ?kd ?k7 ?k8 ?k9 ?kB ?kD ?_ ?c2 ?c3 ?c4; (case kA => rfl); (case kF => assumption); (case kK => assumption); (case k1 => k_asm); (case k2 => k_asm); (case k3 => k_asm); (case k4 => k_asm); (case k5 => k_asm); (case k6 => (first | exact Frag.In.keeps (by k_asm) (Fr.keep (by k_asm)) _ _ (by k_is))); (case kd => rfl); (case k7 => exact codeRec_of (Frag.In.keeps (by k_asm) (Fr.keep (by k_asm))) (by k_is)); (case k8 => ktr_room); (case k9 => exact BindsTo.of_eq rfl); (case kB => exact kindsX rfl); (case kD => decide +kernel); (case c2 => exact rfl); (case c3 => exact rfl); (case c4 => exact rfl); k_whole; intro g' L' h' tk' cells' kg' F' N' Y' B' X' T' l1; (try k_lt l1); k_cells Y'; (try simp only [List.cons_append, List.nil_append] at N'); (try dsimp only); (try k_lift B'); (try k_fold))
  k_steps
  repeat (refine Halt.un ?_; (k_dflt (refine' listStr_K (by first | rfl | assumption) (by k_asm) (by k_asm) (by first | assumption | exact Nat.le_trans (Nat.le_of_eq (step_rev_len _ _)) (by assumption)) ?_); intro l' h' tk' vs' n' F' N' l1 hs'; (try k_lt l1)); k_steps)
  (try dsimp only)
  exact lexer_end hret kg' N (by assumption) (by assumption) (by assumption) (by assumption) (by assumption) (by omega) (by assumption) (by show (Str.ofString "_law_lexer" ++ Str.ofString ".<locals>.") ++ Str.ofString "<lambda>" = _; decide +kernel)
end Mine
end
section
open PySem PySem.W PyProof.Rows PySem.Calls
set_option Elab.async false
set_option compiler.extract_closed false
namespace Mine
set_option maxRecDepth 100000
set_option maxHeartbeats 8000000
open HL1

theorem keep2 {h h' g h₀ : Heap} {L L' : Addr} {m' : Str → Option Value} {led led0 : List (Addr × Obj)} (kg : ∀ b o, h.get? b = some o → b ∉ led0.map (·.1) → g.get? b = some o) (N0 : News h₀ L h led0) (F' : Fr g L' h' m')
    (N' : News g L' h' led) (hs : ∀ p ∈ led0, p ∈ led := by ((repeat (first | exact List.forall_mem_nil _ | (refine List.forall_mem_cons.mpr ⟨?km, ?_⟩; (case km => k_mem)))); (all_goals (intro q' hq'; repeat (first | exact hq' | refine List.Mem.tail _ ?_))))) : ∀ b o, h.get? b = some o → h'.get? b = some o :=
  fun b o e => keep_of [] kg F' N0 N' (fun p hp => .inr (hs p hp)) b o e List.not_mem_nil

theorem off3 {a b c d : Nat} (h1 : a ≠ b) (h2 : a ≠ c) (h3 : a ≠ d) : a ∉ [b, c, d] := by simp [h1, h2, h3]
theorem lexer_end2 {a0 : Addr} {o0 : Obj} {P : Params} {g h : Heap} {s : Shared} {L' : Addr} {R : Result → Shared → Prop} {x : Str} {DX SG X ST DS LAM CELL CO PB PB1 : Nat} {k1 k2 k3 k4 t1 t3 j1 j2 j3 j4 j5 u1 u3 : Tok} {q : Str} {pm ct : Value} {cellO co : Obj} {cvs : Array Value} {qt : Tok} {vs : List Value} {n : Nat} {tk' : Nat} {u0 : Tok} {m' : Str → Option Value} {tab0 : Obj} {h₀ : Heap} {L : Addr}
    (hret : ∀ (c : Lx) h' tk' t1 vs n, c.Ok → (∀ b o, s.heap.get? b = some o → h'.get? b = some o) → Led h' ((c.PB, listOf #[] 0) :: c.led P t1 1 vs n) → c.CO = CO → a0 < c.CELL →
      (∀ p ∈ (c.PB, listOf #[] 0) :: c.led P t1 1 vs n, p.1 ≠ CO → s.heap.get? p.1 = none) → Signs vs x.cps.toList.reverse → R (.ok (.ret (.ref c.X))) { s with heap := h', toks := tk' })
    (kg : ∀ b o, s.heap.get? b = some o → b ∉ [(82, tab0), (CO, co), (a0, o0)].map (·.1) → g.get? b = some o) (N0 : News h₀ L s.heap [(82, tab0), (CO, co), (a0, o0)]) (F' : Fr g L' h m')
    (N : News g L' h [(PB, listOf #[] 0), (X, instObj 59 DX), (DX, lexDict P k1 k2 k3 k4 t1 t3 1 (.ref ST) PB), (LAM, lamObj q CELL CO pm ct), (PB1, listOf #[] 0), (ST, instObj 59 DS), (DS, strDict P j1 j2 j3 j4 j5 u1 u3 PB1 LAM), (SG, listOf vs.toArray n), (CELL, cellO), (82, tab0), (CO, co), (a0, o0)])
    (hcell : cellO.data = .cell (some (.ref SG))) (hco : co.data = .fields cvs) (hcq : cvs[1]? = some (.str q qt))
    (ho : 82 < CELL ∧ @LT.lt Nat _ a0 CELL ∧ CO < CELL ∧ CELL < SG ∧ SG < DS ∧ DS < ST ∧ ST < PB1 ∧ PB1 < LAM ∧ LAM < DX ∧ DX < X ∧ X < PB)
    (hs : Signs vs (Txt.sliceBy x none none (-1, u0)).cps.toList) : R (.ok (.ret (.ref X))) { s with heap := h, toks := tk' } := by
  obtain ⟨g1, g2, g3, s1, s2, s3, s4, s6, s7, s8, s9⟩ := ho
  have up : ∀ b : Nat, b < CELL → b < SG ∧ b < DS ∧ b < ST ∧ b < LAM ∧ b < DX ∧ b < X ∧ b < PB := fun b h0 =>
    have h1 := Nat.lt_trans h0 s1
    have h2 := Nat.lt_trans h1 s2
    have h3 := Nat.lt_trans h2 s3
    have h5 := Nat.lt_trans h3 (Nat.lt_trans s4 s6)
    have h6 := Nat.lt_trans h5 s7
    have h7 := Nat.lt_trans h6 s8
    ⟨h1, h2, h3, h5, h6, h7, Nat.lt_trans h7 s9⟩
  have key : ∀ (z : Nat) (o : Obj), (z, o) ∈ _ → 82 < z → @LT.lt Nat _ CO z → @LT.lt Nat _ a0 z → z ≠ CO → s.heap.get? z = none := fun z o hm h1 h2 h3 _ => fresh_of kg N hm (off3 (Nat.ne_of_gt h1) (Nat.ne_of_gt h2) (Nat.ne_of_gt h3))
  obtain ⟨u1', u2', u3', u5', u6', u7', u8'⟩ := up 82 g1
  obtain ⟨v1', v2', v3', v5', v6', v7', v8'⟩ := up a0 g2
  obtain ⟨w1', w2', w3', w5', w6', w7', w8'⟩ := up CO g3
  refine hret { DX, SG, X, ST, DS, LAM, CELL, CO, PB, PB1, k1, k2, k3, k4, t3, j1, j2, j3, j4, j5, u1, u3, q, pm, ct, cellO, co, cvs, qt } h tk' t1 vs n ⟨hcell, hco, hcq, s1, s2, s3, Nat.lt_trans s4 s6, .inl g3, s7, s8, s9⟩ (keep2 kg N0 F' N) ?_ rfl g2 ?_ (rev_signs hs)
  · repeat (first | exact List.forall_mem_nil _ | (refine List.forall_mem_cons.mpr ⟨News.get N ?km, ?_⟩; (case km => k_mem)))
  · refine' List.forall_mem_cons.mpr ⟨key _ _ ?km u8' w8' v8', List.forall_mem_cons.mpr ⟨key _ _ ?km2 u6' w6' v6', List.forall_mem_cons.mpr ⟨key _ _ ?km3 u1' w1' v1', List.forall_mem_cons.mpr ⟨key _ _ ?km4 u7' w7' v7', List.forall_mem_cons.mpr ⟨key _ _ ?km5 u3' w3' v3', List.forall_mem_cons.mpr ⟨key _ _ ?km6 u2' w2' v2',
      List.forall_mem_cons.mpr ⟨key _ _ ?km7 u5' w5' v5', List.forall_mem_cons.mpr ⟨key _ _ ?km8 g1 g3 g2, List.forall_mem_cons.mpr ⟨fun h => absurd rfl h, List.forall_mem_nil _⟩⟩⟩⟩⟩⟩⟩⟩⟩
    case km => k_mem
    case km2 => k_mem
    case km3 => k_mem
    case km4 => k_mem
    case km5 => k_mem
    case km6 => k_mem
    case km7 => k_mem
    case km8 => k_mem

theorem c_lexer2 (w : World) (p : Program) (loose : List Str) (mean : ExcName → Option Value) (mg mb : Str → Option Value) 
   (CO : Nat) (co : Obj) (a0 : Addr) (o0 : Obj) (h82 : @LT.lt Nat _ 82 a0) (hco0 : @LT.lt Nat _ CO a0) (cvs : Array Value) (qt : Tok) (hco : co.data = .fields cvs) (hcq : cvs[1]? = some (.str (Str.ofString "_law_lexer.<locals>.<lambda>") qt)) (x : Str) (tx : Tok) (hx : x.length ≤ sizeLine):
  ∀ (dp un : Nat) (gd : Option (List Code)) (env : Env) (outer : List Env) (A₀ : Around) (base h₀ : Heap) (L : Addr) (m : Str → Option Value) (s : Shared) (R : Result → Shared → Prop),
    Below A₀ base outer h₀ → Fr h₀ L s.heap m → (hd.heap_39 w.params).In h₀ → News h₀ L s.heap [(82, tabObj (#[] ++ #[rawInt 118, rawInt 18, .ref CO])), (CO, co), (a0, o0)] → Top p loose mean mg mb h₀ → CodeHd base 86 82 → env.frame = some L → env.scope.kind = .function → 
    dp + 8 < recursionLimit → un + 90 < cLine → 
    (∀ (c : Lx) h' tk' t1 vs n, c.Ok → (∀ b o, s.heap.get? b = some o → h'.get? b = some o) → Led h' ((c.PB, listOf #[] 0) :: c.led w.params t1 1 vs n) → c.CO = CO → a0 < c.CELL →
      (∀ p ∈ (c.PB, listOf #[] 0) :: c.led w.params t1 1 vs n, p.1 ≠ CO → s.heap.get? p.1 = none) → Signs vs x.cps.toList.reverse → R (.ok (.ret (.ref c.X))) { s with heap := h', toks := tk' }) →
      codeAny (model Mine.rwv.row.prog w) (tA dp un gd env outer) (.call (.ref 87) ⟨[.str x tx], []⟩) R s := by
  k_fill
  intro dp un gd env outer A₀ base h₀ L m s R B F X₀ N T C hf hke hdp hun hret
  (refine' my_enterC ?k1 ?k2 ?k3 ?k4 ?k5 ?kA ?kF ?kK ?k6 ?kd ?k7 ?k8 ?k9 ?kB ?kD ?_ ?c2 ?c3 ?c4; (case kA => rfl); (case kF => assumption); (case kK => assumption); (case k1 => k_asm); (case k2 => k_asm); (case k3 => k_asm); (case k4 => k_asm); (case k5 => k_asm); (case k6 => (first | exact Frag.In.keeps (by k_asm) (Fr.keep (by k_asm)) _ _ (by k_is))); (case kd => rfl); (case k7 => exact codeRec_of (Frag.In.keeps (by k_asm) (Fr.keep (by k_asm))) (by k_is)); (case k8 => ktr_room); (case k9 => exact BindsTo.of_eq rfl); (case kB => exact kindsX rfl); (case kD => decide +kernel); (case c2 => exact rfl); (case c3 => exact rfl); (case c4 => exact rfl); k_whole; intro g' L' h' tk' cells' kg' F' N' Y' B' X' T' l1; (try k_lt l1); k_cells Y'; (try simp only [List.cons_append, List.nil_append] at N'); (try dsimp only); (try k_lift B'); (try k_fold))
  k_steps
  repeat (refine Halt.un ?_; (k_dflt (refine' listStr_K (by first | rfl | assumption) (by k_asm) (by k_asm) (by first | assumption | exact Nat.le_trans (Nat.le_of_eq (step_rev_len _ _)) (by assumption)) ?_); intro l' h' tk' vs' n' F' N' l1 hs'; (try k_lt l1)); k_steps)
  (try dsimp only)
  exact lexer_end2 hret kg' N (by assumption) (by assumption) (by assumption) (by assumption) (by assumption) (by omega) (by assumption)
end Mine
end
section
open PySem PySem.W PyProof.Rows PySem.Calls
set_option Elab.async false
set_option compiler.extract_closed false
noncomputable section
namespace Mine
set_option maxRecDepth 100000
noncomputable def p0 : Params := { strHash := fun _ => 0, shareClass := fun _ => 0, mergeTok := fun t => t, idOf := fun _ => 0, idOfShared := fun _ _ => 0, followText := fun _ => false, idOfImm := fun _ => 0 }
noncomputable def exEs (p : Params) : List DictEntry := match (hd.heap_39 p).lookup 64 with
  | some o => (match o.data with | .dict es _ => es.toList | _ => [])
  | none => []
theorem ex_look (p : Params) : ∃ n, (hd.heap_39 p).lookup 64 = some ⟨.type "dict", none, .dict (exEs p).toArray n, #[]⟩ := ⟨_, rfl⟩
theorem exLit (p : Params) : KeysLit p (exEs p) := by
  repeat (first | exact True.intro | refine And.intro (b := KeysLit _ _) ⟨_, _, rfl, rfl⟩ ?_)
noncomputable def exKV (p : Params) : List (Value × Value) := (exEs p).map fun e => (e.key, e.val)
theorem exKV_eq (p : Params) : exKV p = exKV p0 := rfl
noncomputable def siOne (e : Value × Value) : Option (Str × Int) := match e.1 with
  | .str x _ => (match e.2 with | .int k _ => some (x, k) | _ => none)
  | _ => none
theorem siOne_some {e : Value × Value} {y : Str} {k : Int} (h : siOne e = some (y, k)) : ∃ t u, e = (.str y t, .int k u) := by
  obtain ⟨a, b⟩ := e
  unfold siOne at h
  split at h
  · rename_i x t heq
    split at h
    · rename_i k' u heq2
      cases h
      exact ⟨t, u, Prod.ext heq heq2⟩
    · cases h
  · cases h
noncomputable def siOf (l : List (Value × Value)) : List (Str × Int) := l.filterMap siOne
noncomputable def allSI (l : List (Value × Value)) : Bool := l.all fun e => (siOne e).isSome
/-- the operators and their numbers, read off the head -/
noncomputable def exL : List (Str × Int) := siOf (exKV p0)
theorem exSI : allSI (exKV p0) = true := by decide +kernel
theorem exL48 : exL.length = 48 := by decide +kernel
noncomputable def exOr (x : Str) (d : Int) : Int := match exL.find? (fun e => e.1 == x) with
  | some e => e.2
  | none => d
theorem findSI (x : Str) (d : Int) (td : Tok) (l : List (Value × Value)) (h : allSI l = true) : ∃ t, ((l.find? fun e => Value.isStrOf x e.1).map (·.2)).getD (.int d td) = .int (match (siOf l).find? (fun e => e.1 == x) with
  | some e => e.2
  | none => d) t := by
  induction l with
  | nil => exact ⟨td, rfl⟩
  | cons e r ih =>
    unfold allSI at h
    rw [List.all_cons, Bool.and_eq_true] at h
    obtain ⟨⟨y, k⟩, hs⟩ := Option.isSome_iff_exists.mp h.1
    obtain ⟨t0, u, rfl⟩ := siOne_some hs
    have e1 : siOf ((Value.str y t0, Value.int k u) :: r) = (y, k) :: siOf r := rfl
    rw [e1]
    by_cases e : (y == x) = true
    · refine ⟨u, ?_⟩
      simp [Value.isStrOf, e]
    · obtain ⟨t', h'⟩ := ih h.2
      refine ⟨t', ?_⟩
      simpa [Value.isStrOf, e] using h'
section
variable {prog : Program} {w : World} {A : Around} {E : Value → Shared → Prop} {s : Shared} {h₀ : Heap} {L : Addr} {m : Str → Option Value}
theorem ex_find (p : Params) (x : Str) (d : Int) (td : Tok) : ∃ t, (findBy Value.isStrOf (exEs p).toArray x).getD (.int d td) = .int (exOr x d) t := by
  have h := findSI x d td (exKV p) (by rw [exKV_eq]; exact exSI)
  rw [exKV_eq p] at h
  have e : findBy Value.isStrOf (exEs p).toArray x = ((exKV p).find? fun e => Value.isStrOf x e.1).map (·.2) := by
    unfold findBy exKV
    rw [List.find?_toArray, List.find?_map, Option.map_map]
    rfl
  rw [e, exKV_eq]
  exact h
theorem get_exact {x : Str} {t u : Tok} {d : Int} {Q : Value → Shared → Prop} (F : Fr h₀ L s.heap m) (X₀ : (hd.heap_39 w.params).In h₀) (h : ∀ t', Q (.int (exOr x d) t') { s with toks := s.toks + 1 }) :
    wpAny (model prog w) A (call (.builtin "dict.get") [.ref 64, .str x t, .int d u]) Q E s := by
  obtain ⟨n, hl⟩ := ex_look w.params
  have hm := mapOf_K (prog := prog) (w := w) (X₀.keeps F.keep) hl (exLit w.params)
  obtain ⟨t', he⟩ := ex_find w.params x d u
  exact call_meetsIn PySem.F.slot_dict_get hm.typeIs PySem.F.entry_dict_get (PySem.F.args_dict_get_3 _ _ _) (meets_dict_get_default (strKind prog w) 64 (strKind_is prog w x t) (by decide) (.int d u)) ⟨_, hm, by rw [he]; exact h t'⟩
end
end Mine
end
end
section
open PySem PySem.W PyProof.Rows PySem.Calls
set_option Elab.async false
set_option compiler.extract_closed false
namespace Mine
set_option maxRecDepth 100000
set_option maxHeartbeats 8000000

/-- the operators in the order of their numbers, read off the head's table -/
noncomputable def namesX : List Str := (List.range 48).map fun (i : Nat) => match exL.find? (fun e => e.2 == (i : Int) + 7) with
  | some e => e.1
  | none => ⟨#[]⟩
theorem c_names (w : World) (p : Program) (loose : List Str) (mean : ExcName → Option Value) (mg mb : Str → Option Value) (a0 : Addr) (o0 : Obj) :
  ∀ (dp un : Nat) (gd : Option (List Code)) (env : Env) (outer : List Env) (A₀ : Around) (base h₀ : Heap) (L : Addr) (m : Str → Option Value) (s : Shared) (R : Result → Shared → Prop),
    Below A₀ base outer h₀ → Fr h₀ L s.heap m → (hd.heap_39 w.params).In h₀ → 
    News h₀ L s.heap [(a0, o0)] → Top p loose mean mg mb h₀ → env.frame = some L → env.scope.kind = .function → 
    dp + 9 < recursionLimit → un + 100 < cLine →
    (∀ h' tk' D vs, (∀ b o, s.heap.get? b = some o → h'.get? b = some o) → h'.get? D = some (listOf vs.toArray 0) → s.heap.get? D = none → a0 < D → StrsAre vs namesX → R (.ok (.ret (.ref D))) { s with heap := h', toks := tk' }) →
      codeAny (model Mine.rwv.row.prog w) (tA dp un gd env outer) (.call (.ref 80) ⟨[], []⟩) R s := by
  k_fill
  intro dp un gd env outer A₀ base h₀ L m s R B F X₀ N T hf hke hdp hun hret
  (refine' my_enter ?k1 ?k2 ?k3 ?k4 ?k5 ?kA ?kF ?kK ?k6 ?kd ?k7 ?k8 ?k9 ?kB ?_ ?c2 ?c3 ?c4 ?c5; (case kA => rfl); (case kF => assumption); (case kK => assumption); (case k1 => k_asm); (case k2 => k_asm); (case k3 => k_asm); (case k4 => k_asm); (case k5 => k_asm); (case k6 => (first | exact Frag.In.keeps (by k_asm) (Fr.keep (by k_asm)) _ _ (by k_is))); (case kd => rfl); (case k7 => exact codeRec_of (Frag.In.keeps (by k_asm) (Fr.keep (by k_asm))) (by k_is)); (case k8 => ktr_room); (case k9 => exact BindsTo.of_eq rfl); (case c2 => decide); (case kB => exact locs rfl); (case c3 => exact rfl); (case c4 => exact rfl); (case c5 => exact rfl); k_whole; intro g' L' h1 kg' F' N' B' X' T' l1; (try k_lt l1); (try dsimp only); (try k_lift B'); (try k_fold))
  k_steps
  (try dsimp only)
  rename Fr _ _ _ _ => F5; rename News _ _ _ _ => N5; rename List.map _ _ = Txt.split _ _ => e5; rename StrsAre _ _ => a5
  refine hret _ _ _ _ (fun b o e => keep_of [] kg' F5 N N5 (by (repeat (first | exact List.forall_mem_nil _ | (refine List.forall_mem_cons.mpr ⟨?km, ?_⟩; (case km => first | exact .inl (by k_mem) | exact .inr (by k_mem)))))) b o e List.not_mem_nil) (News.get N5 (by k_mem)) (fresh_of (led0 := [(a0, o0)]) kg' N5 (by k_mem) (off1 (Ne.symm (Nat.ne_of_lt (by omega))))) (by omega) ?_
  rw [e5] at a5
  refine cast (congrArg (StrsAre _) (?e : _ = namesX)) a5
  decide +kernel
end Mine
end
section
open PySem PySem.W PyProof.Rows PySem.Calls
set_option Elab.async false
set_option compiler.extract_closed false
namespace Mine
set_option maxRecDepth 100000
set_option maxHeartbeats 8000000


namespace HM2
theorem k_exec_While_Compare_cons_nil {P : Prop} (h : Halt P) : P := h
end HM2
open HM2
/-- how often q divides n -/
noncomputable def vp (q n : Nat) : Nat := if h : 2 ≤ q ∧ 0 < n ∧ n % q = 0 then vp q (n / q) + 1 else 0
termination_by n
decreasing_by exact Nat.div_lt_self h.2.1 (by omega)
noncomputable abbrev mkT (k : Int) (tk : Tok) (c : Int) (tc : Tok) (q : Int) (tq : Tok) : Str → Option Value := fun y => if y = Str.ofString "number" then some (.int k tk) else if y = Str.ofString "count" then some (.int c tc) else if y = Str.ofString "prime" then some (.int q tq) else none
noncomputable def TiI (g' : Heap) (L' : Nat) (s : Shared) (q : Nat) (tq : Tok) (V : Nat) (i : Nat) (s' : Shared) : Prop :=
  ∃ k c : Nat, ∃ h tk t1 t2, s' = { s with heap := h, toks := tk } ∧ Fr g' L' h (mkT k t1 c t2 q tq) ∧ 0 < k ∧ c + vp q k = V ∧ i = k
theorem fdiv_nat (a b : Nat) : Int.fdiv (a : Int) (b : Int) = ((a / b : Nat) : Int) := by
  rw [Int.fdiv_eq_ediv_of_nonneg _ (Int.natCast_nonneg b)]; rfl
theorem fmod_nat (a b : Nat) : Int.fmod (a : Int) (b : Int) = ((a % b : Nat) : Int) := by
  rw [Int.fmod_eq_emod_of_nonneg _ (Int.natCast_nonneg b)]; rfl
theorem vp_step {q n : Nat} (hq : 2 ≤ q) (hn : 0 < n) (h : n % q = 0) : vp q n = vp q (n / q) + 1 := by
  rw [vp]; simp [hq, hn, h]
theorem vp_stop {q n : Nat} (h : n % q ≠ 0) : vp q n = 0 := by
  rw [vp]; simp [h]
theorem TiI.again {g' : Heap} {L' : Nat} {s : Shared} {q : Nat} {tq : Tok} {V k c : Nat} {h : Heap} {tk : Nat} {m : Str → Option Value} {t1 t2 : Tok} (hq : 2 ≤ q) (hk : 0 < k) (hc : c + vp q k = V) (hm : Int.fmod (k : Int) (q : Int) = 0)
    (F : Fr g' L' h m) (e : m = fun y => if y = Str.ofString "count" then some (.int ((c : Int) + 1) t2) else if y = Str.ofString "number" then some (.int (Int.fdiv (k : Int) (q : Int)) t1) else mkT (k : Int) 0 (c : Int) 0 (q : Int) tq y) :
    Again (TiI g' L' s q tq V) k { s with heap := h, toks := tk } := by
  rw [fmod_nat] at hm
  have hm' : k % q = 0 := by omega
  have hd : 0 < k / q := Nat.div_pos (Nat.le_of_dvd hk (Nat.dvd_of_mod_eq_zero hm')) (by omega)
  refine again_of (k / q) ⟨k / q, c + 1, h, tk, t1, t2, rfl, fr_eq F ?_, hd, ?_, rfl⟩ (Nat.div_lt_self hk (by omega))
  · rw [e]
    funext y
    rw [fdiv_nat]
    by_cases h1 : y = Str.ofString "number"
    · subst h1; rfl
    · by_cases h2 : y = Str.ofString "count"
      · subst h2; rfl
      · simp only [mkT, if_neg h1, if_neg h2]
  · rw [vp_step hq hk hm'] at hc; omega
theorem mkT_up {a b c d : Int} {t1 t2 t3 t4 tq : Tok} {q : Int} : (fun y => if y = Str.ofString "count" then some (Value.int c t3) else if y = Str.ofString "number" then some (.int d t4) else mkT a t1 b t2 q tq y) = fun y => if y = Str.ofString "count" then some (.int c t3) else if y = Str.ofString "number" then some (.int d t4) else mkT a 0 b 0 q tq y := by
  funext y
  by_cases h1 : y = Str.ofString "number"
  · subst h1; rfl
  · by_cases h2 : y = Str.ofString "count"
    · subst h2; rfl
    · simp only [mkT, if_neg h1, if_neg h2]
theorem c_times (w : World) (p : Program) (loose : List Str) (mean : ExcName → Option Value) (mg mb : Str → Option Value) (n q : Nat) (tn tq : Tok) (hn : 0 < n) (hq : 2 ≤ q) (hq2 : q < 100) :
  ∀ (dp un : Nat) (gd : Option (List Code)) (env : Env) (outer : List Env) (A₀ : Around) (base h₀ : Heap) (L : Addr) (m : Str → Option Value) (s : Shared) (R : Result → Shared → Prop),
    Below A₀ base outer h₀ → Fr h₀ L s.heap m → (hd.heap_39 w.params).In h₀ → 
    News h₀ L s.heap [] → Top p loose mean mg mb h₀ → env.frame = some L → env.scope.kind = .function → 
    dp + 9 < recursionLimit → un + 100 < cLine →
    (∀ h' tk' t, (∀ b o, s.heap.get? b = some o → h'.get? b = some o) → R (.ok (.ret (.int (vp q n) t))) { s with heap := h', toks := tk' }) →
      codeAny (model Mine.rwv.row.prog w) (tA dp un gd env outer) (.call (.ref 101) ⟨[.int n tn, .int q tq], []⟩) R s := by
  k_fill
  intro dp un gd env outer A₀ base h₀ L m s R B F X₀ N T hf hke hdp hun hret
  k_dflt (refine' my_enter ?k1 ?k2 ?k3 ?k4 ?k5 ?kA ?kF ?kK ?k6 ?kd ?k7 ?k8 ?k9 ?kB ?_ ?c2 ?c3 ?c4 ?c5; (case kA => rfl); (case kF => assumption); (case kK => assumption); (case k1 => k_asm); (case k2 => k_asm); (case k3 => k_asm); (case k4 => k_asm); (case k5 => k_asm); (case k6 => (first | exact Frag.In.keeps (by k_asm) (Fr.keep (by k_asm)) _ _ (by k_is))); (case kd => rfl); (case k7 => exact codeRec_of (Frag.In.keeps (by k_asm) (Fr.keep (by k_asm))) (by k_is)); (case k8 => ktr_room); (case k9 => exact BindsTo.of_eq rfl); (case c2 => decide); (case kB => exact locs rfl); (case c3 => exact rfl); (case c4 => exact rfl); (case c5 => exact rfl); k_whole; intro g' L' h1 kg' F' N' B' X' T' l1; (try k_lt l1); (try dsimp only); (try k_lift B'); (try k_fold))
  k_steps
  rename Fr _ _ _ _ => F5
  have F8 := fr_eq (m' := mkT n tn 0 _ q tq) F5 (by
    funext y
    by_cases h1 : y = Str.ofString "number"
    · subst h1; rfl
    · by_cases h2 : y = Str.ofString "count"
      · subst h2; rfl
      · by_cases h3 : y = Str.ofString "prime"
        · subst h3; rfl
        · simp only [mkT, if_neg h1, if_neg h2, if_neg h3]
          exact lookup2_none h3 h1)
  clear F5
  refine while_m (TiI g' L' s q tq (vp q n)) n ⟨n, 0, _, _, _, _, rfl, F8, hn, by omega, rfl⟩ ?_
  clear F8
  rintro i _ ⟨k, c, h', tk', t1, t2, rfl, F6, hk, hc, rfl⟩
  have N6 : News g' L' h' [] := News.nil
  k_steps
  · (try dsimp only)
    rename Fr _ _ _ _ => F5
    exact TiI.again hq hk hc (by assumption) F5 mkT_up
  · (try dsimp only)
    have hv : vp q n = c := by
      rename _ ≠ (0 : Int) => hne
      rw [fmod_nat] at hne
      rw [← hc, vp_stop (by omega)]; rfl
    rw [← hv]
    exact hret h' _ t2 (fun b o e => F6.keep b o (kg' b o e List.not_mem_nil))
end Mine
end
section
open PySem PySem.W PyProof.Rows PySem.Calls
set_option Elab.async false
set_option compiler.extract_closed false
namespace Mine
set_option maxRecDepth 100000
set_option maxHeartbeats 8000000
theorem divmod_K {prog : Program} {w : World} {A : Around} {E : Value → Shared → Prop} {s : Shared} {h₀ : Heap} {L : Addr} {m : Str → Option Value} {news : List (Addr × Obj)} {a b : Int} {t u : Tok} {Q : Value → Shared → Prop} (F : Fr h₀ L s.heap m) (N : News h₀ L s.heap news) (hb : b ≠ 0) (hb2 : b < 100) (hb3 : 0 < b)
    (h : ∀ d h' tk' t1 t2, Fr h₀ L h' m → News h₀ L h' ((d, { cls := .type "tuple", data := .seq #[.int (Int.fdiv a b) t1, .int (Int.fmod a b) t2] }) :: news) → (∀ p ∈ news, p.1 < d) → Q (.ref d) { s with heap := h', toks := tk' }) :
    wpAny (model prog w) A (call (.builtin "divmod") [.int a t, .int b u]) Q E s := by
  refine divmod_N F N hb (hp := Or.inl (PyProof.noPylong_small (by omega))) ?_
  intro h' F' N'
  exact h _ h' _ _ _ F' N' (fun p hp => Heap.lt_size (N p hp).1)


namespace HM3
theorem k_call_builtin_divmod {P : Prop} (h : Halt P) : P := h
theorem k_exec_For_Name_Name_cons_nil {M : Model} {A : Around} {E : Value → Shared → Prop} {s : Shared} {env : Env} {p q r : Pos} {b : List Stmt} {Q : Flow → Shared → Prop} (h : Halt (wpAny M A (exec (.For (.Name (Str.ofString "size") p) (.Name (Str.ofString "sizes") q) b [] r) env) Q E s)) : wpAny M A (exec (.For (.Name (Str.ofString "size") p) (.Name (Str.ofString "sizes") q) b [] r) env) Q E s := h
end HM3
open HM3
noncomputable def remZ : Int → List Int → Int
  | n, [] => n
  | n, s :: r => remZ (Int.fdiv n s) r
noncomputable def figsZ : Int → List Int → List Int
  | _, [] => []
  | n, s :: r => Int.fmod n s :: figsZ (Int.fdiv n s) r
theorem remZ_snoc (n : Int) (l : List Int) (s : Int) : remZ n (l ++ [s]) = Int.fdiv (remZ n l) s := by
  induction l generalizing n with
  | nil => rfl
  | cons a r ih => exact ih _
theorem figsZ_snoc (n : Int) (l : List Int) (s : Int) : figsZ n (l ++ [s]) = figsZ n l ++ [Int.fmod (remZ n l) s] := by
  induction l generalizing n with
  | nil => rfl
  | cons a r ih => show _ :: figsZ _ (r ++ [s]) = _ :: _; rw [ih]; rfl
theorem figsZ_len (n : Int) (l : List Int) : (figsZ n l).length = l.length := by
  induction l generalizing n with
  | nil => rfl
  | cons a r ih => show _ + 1 = _ + 1; rw [ih]
theorem IntsAre.snoc {vs : List Value} {ns : List Int} (h : IntsAre vs ns) (k : Int) (t : Tok) : IntsAre (vs ++ [.int k t]) (ns ++ [k]) := by
  induction h with
  | nil => exact .cons k t .nil
  | cons a t' _ ih => exact .cons a t' ih
noncomputable abbrev mkF (szv figv : Option Value) (num : Int) (tn : Tok) (D l : Addr) : Str → Option Value := fun y => if y = Str.ofString "size" then szv else if y = Str.ofString "figure" then figv else if y = Str.ofString "number" then some (.int num tn) else if y = Str.ofString "figures" then some (.ref D) else if y = Str.ofString "sizes" then some (.ref l) else none
noncomputable def FiJ (a0 : Addr) (o0 : Obj) (n : Int) (ns : List Int) (D l : Addr) (i : Nat) (m : Str → Option Value) (nx : List (Addr × Obj)) : Prop :=
  ∃ us c szv figv tn, nx = [(D, listOf us.toArray c), (a0, o0)] ∧ IntsAre us (figsZ n (ns.take i)) ∧ m = mkF szv figv (remZ n (ns.take i)) tn D l
theorem FiJ.end_ {a0 : Addr} {o0 : Obj} {g' h' : Heap} {L' : Nat} {num : Int} {ns : List Int} {D l d : Addr} {i : Nat} {x : Int} {own : List (Addr × Obj)} {s₁ : Shared} {tk' c : Nat} {us : List Value} {szv figv : Option Value} {tn t1 t2 t : Tok} {tobj : Obj} (hx : ns[i]? = some x) (hu : IntsAre us (figsZ num (ns.take i)))
    (F : Fr g' L' h' (fun y => if y = Str.ofString "figure" then some (.int (Int.fmod (remZ num (ns.take i)) x) t2) else if y = Str.ofString "number" then some (.int (Int.fdiv (remZ num (ns.take i)) x) t1) else if y = Str.ofString "size" then some (.int x t) else mkF szv figv (remZ num (ns.take i)) tn D l y))
    (N : News g' L' h' ((d, tobj) :: (D, listOf (us ++ [Value.int (Int.fmod (remZ num (ns.take i)) x) t2]).toArray (c + 1)) :: (a0, o0) :: own)) :
    InvEndN g' L' (FiJ a0 o0 num ns D l (i + 1)) own [D, a0] s₁ { s₁ with heap := h', toks := tk' } := by
  have ht : ns.take (i + 1) = ns.take i ++ [x] := by simp [List.take_add_one, hx]
  refine InvEndN.intro F N (nx := [(D, listOf (us ++ [Value.int (Int.fmod (remZ num (ns.take i)) x) t2]).toArray (c + 1)), (a0, o0)]) ⟨_, c + 1, some (.int x t), some (.int (Int.fmod (remZ num (ns.take i)) x) t2), t1, rfl, ?_, ?_⟩ rfl (fun p hp => ?_) (fun p hp => .tail _ (.tail _ (.tail _ hp)))
  · rw [ht, figsZ_snoc]; exact IntsAre.snoc hu _ _
  · rw [ht, remZ_snoc]
    funext y
    by_cases h1 : y = Str.ofString "number"
    · subst h1; rfl
    · by_cases h4 : y = Str.ofString "size"
      · subst h4; rfl
      · by_cases h5 : y = Str.ofString "figure"
        · subst h5; rfl
        · simp only [mkF, if_neg h1, if_neg h4, if_neg h5]
  · rcases List.mem_cons.mp hp with rfl | hp
    · exact .tail _ (.head _)
    · rw [List.mem_singleton.mp hp]; exact .tail _ (.tail _ (.head _))
theorem c_figures (w : World) (p : Program) (loose : List Str) (mean : ExcName → Option Value) (mg mb : Str → Option Value) (a0 : Addr) (o0 : Obj) (num : Int) (tn : Tok) (l : Addr) (lv : List Value) (ns : List Int) (nn : Nat) (hi : IntsAre lv ns) (hpos : ∀ x ∈ ns, 0 < x ∧ x < 100) (hlen : ns.length < 100) (hla : l ≠ a0) :
  ∀ (dp un : Nat) (gd : Option (List Code)) (env : Env) (outer : List Env) (A₀ : Around) (base h₀ : Heap) (L : Addr) (m : Str → Option Value) (s : Shared) (R : Result → Shared → Prop),
    Below A₀ base outer h₀ → Fr h₀ L s.heap m → (hd.heap_39 w.params).In h₀ → 
    News h₀ L s.heap [(a0, o0)] → s.heap.get? l = some (listOf lv.toArray nn) → Top p loose mean mg mb h₀ → env.frame = some L → env.scope.kind = .function → 
    dp + 9 < recursionLimit → un + 100 < cLine →
    (∀ h' tk' D us c, (∀ b o, s.heap.get? b = some o → h'.get? b = some o) → h'.get? D = some (listOf us.toArray c) → s.heap.get? D = none → a0 < D → IntsAre us (figsZ num ns) → R (.ok (.ret (.ref D))) { s with heap := h', toks := tk' }) →
      codeAny (model Mine.rwv.row.prog w) (tA dp un gd env outer) (.call (.ref 108) ⟨[.int num tn, .ref l], []⟩) R s := by
  k_fill
  intro dp un gd env outer A₀ base h₀ L m s R B F X₀ N hl T hf hke hdp hun hret
  (refine' my_enter ?k1 ?k2 ?k3 ?k4 ?k5 ?kA ?kF ?kK ?k6 ?kd ?k7 ?k8 ?k9 ?kB ?_ ?c2 ?c3 ?c4 ?c5; (case kA => rfl); (case kF => assumption); (case kK => assumption); (case k1 => k_asm); (case k2 => k_asm); (case k3 => k_asm); (case k4 => k_asm); (case k5 => k_asm); (case k6 => (first | exact Frag.In.keeps (by k_asm) (Fr.keep (by k_asm)) _ _ (by k_is))); (case kd => rfl); (case k7 => exact codeRec_of (Frag.In.keeps (by k_asm) (Fr.keep (by k_asm))) (by k_is)); (case k8 => ktr_room); (case k9 => exact BindsTo.of_eq rfl); (case c2 => decide); (case kB => exact locs rfl); (case c3 => exact rfl); (case c4 => exact rfl); (case c5 => exact rfl); k_whole; intro g' L' h1 kg' F' N' B' X' T' l1; (try k_lt l1); (try dsimp only); (try k_lift B'); (try k_fold))
  k_steps
  rename News _ _ _ _ => N5
  rename_i D _ _ hA F5
  have F8 := fr_eq (m' := mkF none none num tn D l) F5 (by
    funext y
    by_cases h1 : y = Str.ofString "number"
    · subst h1; rfl
    · by_cases h2 : y = Str.ofString "figures"
      · subst h2; rfl
      · by_cases h3 : y = Str.ofString "sizes"
        · subst h3; rfl
        · by_cases h4 : y = Str.ofString "size"
          · subst h4; rfl
          · by_cases h5 : y = Str.ofString "figure"
            · subst h5; rfl
            · simp only [mkF, if_neg h1, if_neg h2, if_neg h3, if_neg h4, if_neg h5]
              exact lookup2_none h3 h1)
  clear F5
  have hl' : g'.IsList l lv.toArray := ⟨_, kg' _ _ hl (off1 hla), rfl, nn, rfl⟩
  unfold Halt
  refine For_invVF F8 rfl rfl ?_
  refine nameX_L F8 rfl ?_
  refine iter_invN (FiJ a0 o0 num ns D l) rfl hl' hi F8 N5 ⟨[], 0, none, none, tn, rfl, .nil, rfl⟩ ?_ ?_
  · rintro i x t m₁ _ h tk own hx _ hoff ⟨us, c, szv, figv, tn', rfl, hu, rfl⟩ F6 N6
    clear F8 N5
    have hxp := hpos x (List.mem_of_getElem? hx)
    have hus : us.length ≤ sizeLine := by rw [hu.length, sizeLine_eq]; have := figsZ_len num (ns.take i); rw [this, List.length_take]; omega
    k_steps
    refine Halt.un ?_
    (k_dflt (refine' divmod_K (by k_asm) (by k_asm) (by omega) (by omega) (by omega) ?_); intro d' h' tk' t1' t2' F' N' l1; (have l2 := ltN (l1 _ (by first | exact List.Mem.head _ | exact List.mem_append_left _ (List.Mem.head _)))); dsimp only at l2; clear l1)
    k_steps
    rename Fr _ _ _ _ => F5
    rename News _ _ _ _ => N5
    exact FiJ.end_ hx hu F5 N5
  · rintro m₁ _ h tk ⟨us, c, szv, figv, tn', rfl, hu, rfl⟩ F6 N6
    clear F8 N5
    k_steps
    (try dsimp only)
    refine hret h tk D us c (fun b o e => keep_of [] kg' F6 N N6 (by (repeat (first | exact List.forall_mem_nil _ | (refine List.forall_mem_cons.mpr ⟨?km, ?_⟩; (case km => first | exact .inl (by k_mem) | exact .inr (by k_mem)))))) b o e List.not_mem_nil) (News.get N6 (by k_mem)) (fresh_of (led0 := [(a0, o0)]) kg' N6 (by k_mem) (off1 (Ne.symm (Nat.ne_of_lt (by omega))))) (by omega) ?_
    rw [List.take_length] at hu
    exact hu
end Mine
end
section
open PySem PySem.W PyProof.Rows PySem.Calls
set_option Elab.async false
set_option compiler.extract_closed false
namespace Mine
set_option maxRecDepth 100000
set_option maxHeartbeats 8000000
/-- the sequence that goes on with P times the last term less Q times the one before it -/
noncomputable def luc (P Q : Int) : Nat → Int
  | 0 => 0
  | 1 => 1
  | n + 2 => P * luc P Q (n + 1) - Q * luc P Q n
noncomputable def lucs (P Q : Int) (n : Nat) : List Int := (List.range n).map (luc P Q)
theorem lucs_len (P Q : Int) (n : Nat) : (lucs P Q n).length = n := by simp [lucs]
theorem lucs_get (P Q : Int) {n i : Nat} (h : i < n) : (lucs P Q n)[i]? = some (luc P Q i) := by simp [lucs, h]
theorem lucs_snoc (P Q : Int) (n : Nat) : lucs P Q (n + 1) = lucs P Q n ++ [luc P Q n] := by simp [lucs, List.range_succ]
section
variable {prog : Program} {w : World} {A : Around} {E : Value → Shared → Prop} {s : Shared} {h₀ : Heap} {L D : Addr} {m : Str → Option Value} {news news' : List (Addr × Obj)} {c : Nat}
theorem lenR {vs : List Value} {P Q : Int} {n : Nat} {R : Value → Shared → Prop} (N : News h₀ L s.heap news) (hm : (D, listOf vs.toArray c) ∈ news) (hi : IntsAre vs (lucs P Q n)) (hn : n < 1000)
    (h : R (.int (n : Int) (s.toks + 1)) { s with toks := s.toks + 1 + 1 }) : wpAny (model prog w) A (call (.builtin "len") [.ref D]) R E s := by
  have e : vs.toArray.size = n := by have := hi.length; rw [lucs_len] at this; simpa using this
  refine len_list (news_list N hm) (by rw [e]; omega) ?_
  rw [e]; exact h
theorem itemR {value slice : Expr} {vs : List Value} {P Q : Int} {n : Nat} {k : Int} {u : Tok} {R : Value → Shared → Prop} (i : Nat) (N : News h₀ L s.heap news) (hm : (D, listOf vs.toArray c) ∈ news) (hi : IntsAre vs (lucs P Q n)) (hk : k = -((i : Int) + 1)) (hn : i < n) (hn2 : n < 1000)
    (h : ∀ t, R (.int (luc P Q (n - (i + 1))) t) s)
    (hs : subscripted slice false (.ref D) (.int k u) = operate [.ref D, .int k u] (getItem (.ref D) (.int k u)) := by with_unfolding_all rfl) (hg : ∀ r, letTemporaryGo value (.ref D) r = pure () := by intro _; with_unfolding_all rfl) :
    wpAny (model prog w) A (subscriptTail value slice (.ref D) (.int k u)) R E s := by
  have e : vs.toArray.size = n := by have := hi.length; rw [lucs_len] at this; simpa using this
  obtain ⟨t, hx⟩ := hi.get (n - (i + 1)) _ (lucs_get P Q (by omega))
  have e2 : (k + (n : Int)).toNat = n - (i + 1) := by omega
  exact subscriptTail_builtin (news_list N hm).typeIs slot_list_getitem.lookup (wpAny_getItem_list_neg (news_list N hm) (by omega) (by rw [e]; omega) (by omega) (by rw [e, e2]; simpa using hx) (h t)) hs hg
end
/-- what the row's loop keeps -/
noncomputable def RowI (g : Heap) (L : Addr) (s₀ : Shared) (own : List (Addr × Obj)) (m : Str → Option Value) (l : Addr) (P Q : Int) (many : Nat) (k : Nat) (s : Shared) : Prop :=
  ∃ h tk n vs c, s = { s₀ with heap := h, toks := tk } ∧ k + n = many ∧ 2 ≤ n ∧ IntsAre vs (lucs P Q n) ∧ Fr g L h m ∧ News g L h ((l, listOf vs.toArray c) :: own)
theorem RowI.intro {g h : Heap} {L l : Addr} {s₀ : Shared} {own : List (Addr × Obj)} {m : Str → Option Value} {P Q : Int} {many n : Nat} {vs : List Value} {c tk : Nat} (F : Fr g L h m) (N : News g L h ((l, listOf vs.toArray c) :: own)) (hi : IntsAre vs (lucs P Q n)) (h2 : 2 ≤ n) (hn : n ≤ many) :
    RowI g L s₀ own m l P Q many (many - n) { s₀ with heap := h, toks := tk } := ⟨h, tk, n, vs, c, rfl, by omega, h2, hi, F, N⟩
theorem RowI.again {g h : Heap} {L l : Addr} {s₀ : Shared} {own : List (Addr × Obj)} {m : Str → Option Value} {P Q : Int} {many n : Nat} {vs : List Value} {c k tk : Nat} {t : Tok} (F : Fr g L h m) (N : News g L h ((l, listOf (vs ++ [Value.int (P * luc P Q (n - (0 + 1)) - Q * luc P Q (n - (1 + 1))) t]).toArray c) :: own)) (hi : IntsAre vs (lucs P Q n)) (h2 : 2 ≤ n) (hn : k + n = many) (hl : n < many) :
    Again (RowI g L s₀ own m l P Q many) k { s₀ with heap := h, toks := tk } := by
  refine ⟨k - 1, by omega, h, tk, n + 1, _, c, rfl, by omega, by omega, ?_, F, N⟩
  rw [lucs_snoc]
  obtain ⟨j, rfl⟩ : ∃ j, n = j + 2 := ⟨n - 2, by omega⟩
  exact IntsAre.snoc hi _ _
theorem RowI.again' {g h : Heap} {L l : Addr} {s₀ : Shared} {own : List (Addr × Obj)} {m : Str → Option Value} {P Q P' Q' : Int} {many n : Nat} {vs : List Value} {c k tk : Nat} {t : Tok} (hP : P = P') (hQ : Q = Q') (F : Fr g L h m) (N : News g L h ((l, listOf (vs ++ [Value.int (P' * luc P Q (n - (0 + 1)) - Q' * luc P Q (n - (1 + 1))) t]).toArray c) :: own)) (hi : IntsAre vs (lucs P Q n)) (h2 : 2 ≤ n) (hn : k + n = many) (hl : n < many) :
    Again (RowI g L s₀ own m l P Q many) k { s₀ with heap := h, toks := tk } := by
  subst hP; subst hQ; exact RowI.again F N hi h2 hn hl
/-- the row's P and Q -/
noncomputable def rowOne (k prime : Int) (r : Int) : Int := if (1 + Int.fmod (Int.fdiv k 2) r).fmod prime = 0 then 1 + Int.fmod (Int.fdiv k 2) r + 1 else 1 + Int.fmod (Int.fdiv k 2) r
noncomputable def rowP (k prime : Int) : Int := if Int.fmod k 2 = 1 then rowOne k prime 30 + 1 else 1 + Int.fmod (Int.fdiv k 20) 30
noncomputable def rowQ (k prime : Int) : Int := if Int.fmod k 2 = 1 then rowOne k prime 30 else - rowOne k prime 10

theorem one_b (k prime : Int) {r : Int} (hr : 0 < r) : 1 ≤ rowOne k prime r ∧ rowOne k prime r ≤ r + 1 := by
  have a1 := Int.fmod_nonneg_of_pos (Int.fdiv k 2) hr
  have a2 := Int.fmod_lt_of_pos (Int.fdiv k 2) hr
  unfold rowOne; split <;> omega
theorem row_b (k prime : Int) : 0 ≤ rowP k prime ∧ rowP k prime < 100 ∧ -100 < rowQ k prime ∧ rowQ k prime < 100 := by
  have a1 := one_b k prime (r := 30) (by decide)
  have a3 := one_b k prime (r := 10) (by decide)
  have b1 := Int.fmod_nonneg_of_pos (Int.fdiv k 20) (show (0 : Int) < 30 by decide)
  have b2 := Int.fmod_lt_of_pos (Int.fdiv k 20) (show (0 : Int) < 30 by decide)
  unfold rowP rowQ; split <;> omega
/-- the frame of _law_row behind its first statement -/
noncomputable def mkR (code : Int) (tc : Tok) (prime : Int) (tp : Tok) (many : Int) (tm : Tok) (one : Option Value) (P : Int) (t1 : Tok) (Q : Int) (t2 : Tok) : Str → Option Value := fun y =>
  if y = Str.ofString "code" then some (.int code tc) else if y = Str.ofString "prime" then some (.int prime tp) else if y = Str.ofString "many" then some (.int many tm) else if y = Str.ofString "one" then one
  else if y = Str.ofString "first" then some (.int P t1) else if y = Str.ofString "second" then some (.int Q t2) else none
/-- what stands behind the first statement -/
noncomputable def RowJ (g : Heap) (L : Addr) (s₀ : Shared) (own : List (Addr × Obj)) (code : Int) (tc : Tok) (prime : Int) (tp : Tok) (many : Int) (tm : Tok) (f : Flow) (s : Shared) : Prop :=
  f = .next ∧ ∃ h tk one P t1 Q t2, s = { s₀ with heap := h, toks := tk } ∧ Fr g L h (mkR code tc prime tp many tm one P t1 Q t2) ∧ News g L h own ∧ P = rowP code prime ∧ Q = rowQ code prime
theorem RowJ.intro {g h : Heap} {L : Addr} {s₀ : Shared} {own own' : List (Addr × Obj)} {m : Str → Option Value} {code : Int} {tc : Tok} {prime : Int} {tp : Tok} {many : Int} {tm : Tok} {one : Option Value} {P : Int} {t1 : Tok} {Q : Int} {t2 : Tok} {tk : Nat} (F : Fr g L h m) (N : News g L h own')
    (hs : ∀ q ∈ own, q ∈ own') (e : m = mkR code tc prime tp many tm one P t1 Q t2) (hP : P = rowP code prime) (hQ : Q = rowQ code prime) : RowJ g L s₀ own code tc prime tp many tm .next { s₀ with heap := h, toks := tk } :=
  ⟨rfl, h, tk, one, P, t1, Q, t2, rfl, e ▸ F, sub_news N hs, hP, hQ⟩
local macro_rules | `(tactic| walk_at "call builtin:len") => `(tactic| (k_dflt (refine' lenR (by k_asm) (by k_mem) (by assumption) (by omega) ?_)))
local macro_rules | `(tactic| walk_at "subscriptTail Name UnaryOp ref int") => `(tactic| (k_dflt first | refine' itemR 0 (by k_asm) (by k_mem) (by assumption) (by rfl) (by omega) (by omega) ?_ | refine' itemR 1 (by k_asm) (by k_mem) (by assumption) (by rfl) (by omega) (by omega) ?_))
local macro_rules | `(tactic| walk_at "newList") => `(tactic| (k_dflt (refine' newList_K (by k_asm) (by k_asm) ?_; k_whole); intro l' h' F' N' l1; (try k_lt l1); (try k_sweep)))
namespace HM4
theorem k_exec_While_Compare_cons_nil {P : Prop} (h : Halt P) : P := h
theorem hIf {M : Model} {A : Around} {E : Value → Shared → Prop} {s : Shared} {env : Env} {p q r z : Pos} {o : Operator} {e : Expr} {u : List CmpOp} {v : List Expr} {a b : List Stmt} {Q : Flow → Shared → Prop} (h : Halt (wpAny M A (exec (.If (.Compare (.BinOp (.Name (Str.ofString "code") p) o e q) u v r) a b z) env) Q E s)) : (wpAny M A (exec (.If (.Compare (.BinOp (.Name (Str.ofString "code") p) o e q) u v r) a b z) env) Q E s) := h
theorem hRow {M : Model} {A : Around} {E : Value → Shared → Prop} {s : Shared} {c : Sem Flow} {g : Heap} {L : Addr} {s₀ : Shared} {own : List (Addr × Obj)} {code : Int} {tc : Tok} {prime : Int} {tp : Tok} {many : Int} {tm : Tok} (h : Halt (wpAny M A c (RowJ g L s₀ own code tc prime tp many tm) E s)) : wpAny M A c (RowJ g L s₀ own code tc prime tp many tm) E s := h
end HM4
open HM4
local macro_rules | `(tactic| walk_at "exec If") => `(tactic| ((fail_if_success (with_reducible apply hRow)); with_reducible apply hIf))
theorem c_row (w : World) (p : Program) (loose : List Str) (mean : ExcName → Option Value) (mg mb : Str → Option Value) (a0 : Addr) (o0 : Obj) (code prime many : Int) (tc tp tm : Tok) (hp : 2 ≤ prime) (hp2 : prime < 100) (hm1 : 2 ≤ many) (hm : many < 200) :
  ∀ (dp un : Nat) (gd : Option (List Code)) (env : Env) (outer : List Env) (A₀ : Around) (base h₀ : Heap) (L : Addr) (m : Str → Option Value) (s : Shared) (R : Result → Shared → Prop),
    Below A₀ base outer h₀ → Fr h₀ L s.heap m → (hd.heap_39 w.params).In h₀ → 
    News h₀ L s.heap [(a0, o0)] → Top p loose mean mg mb h₀ → env.frame = some L → env.scope.kind = .function → 
    dp + 9 < recursionLimit → un + 100 < cLine →
    (∀ h' tk' D vs c, (∀ b o, s.heap.get? b = some o → h'.get? b = some o) → h'.get? D = some (listOf vs.toArray c) → s.heap.get? D = none → a0 < D → IntsAre vs (lucs (rowP code prime) (rowQ code prime) many.toNat) → R (.ok (.ret (.ref D))) { s with heap := h', toks := tk' }) →
      codeAny (model Mine.rwv.row.prog w) (tA dp un gd env outer) (.call (.ref 94) ⟨[.int code tc, .int prime tp, .int many tm], []⟩) R s := by
  k_fill
  intro dp un gd env outer A₀ base h₀ L m s R B F X₀ N T hf hke hdp hun hret
  (refine' my_enter ?k1 ?k2 ?k3 ?k4 ?k5 ?kA ?kF ?kK ?k6 ?kd ?k7 ?k8 ?k9 ?kB ?_ ?c2 ?c3 ?c4 ?c5; (case kA => rfl); (case kF => assumption); (case kK => assumption); (case k1 => k_asm); (case k2 => k_asm); (case k3 => k_asm); (case k4 => k_asm); (case k5 => k_asm); (case k6 => (first | exact Frag.In.keeps (by k_asm) (Fr.keep (by k_asm)) _ _ (by k_is))); (case kd => rfl); (case k7 => exact codeRec_of (Frag.In.keeps (by k_asm) (Fr.keep (by k_asm))) (by k_is)); (case k8 => ktr_room); (case k9 => exact BindsTo.of_eq rfl); (case c2 => decide); (case kB => exact locs rfl); (case c3 => exact rfl); (case c4 => exact rfl); (case c5 => exact rfl); k_whole; intro g' L' h1 kg' F' N' B' X' T' l1; (try k_lt l1); (try dsimp only); (try k_lift B'); (try k_fold))
  k_steps
  unfold Halt
  rename Fr _ _ _ _ => F3; rename News _ _ _ _ => N3
  refine wpAny_mono (Q := RowJ g' L' s [(a0, o0)] code tc prime tp many tm) ?first ?second (fun _ _ e => e)
  case first =>
    k_steps
    all_goals (try dsimp only)
    all_goals (rename Fr _ _ _ _ => F5; rename News _ _ _ _ => N5)
    all_goals (refine' RowJ.intro F5 N5 (fun q hq => .tail _ hq) (by
      funext y
      by_cases c1 : y = Str.ofString "code"
      · subst c1; rfl
      by_cases c2 : y = Str.ofString "prime"
      · subst c2; rfl
      by_cases c3 : y = Str.ofString "many"
      · subst c3; rfl
      by_cases c4 : y = Str.ofString "one"
      · subst c4; rfl
      by_cases c5 : y = Str.ofString "first"
      · subst c5; rfl
      by_cases c6 : y = Str.ofString "second"
      · subst c6; rfl
      refine Eq.trans ?_ ((if_neg c1).trans ((if_neg c2).trans ((if_neg c3).trans ((if_neg c4).trans ((if_neg c5).trans (if_neg c6)))))).symm
      repeat (first | exact lookup3_none (by assumption) (by assumption) (by assumption) | refine (if_neg (by assumption)).trans ?_)) ?_ ?_)
    all_goals first
      | (unfold rowP rowOne; (repeat' split) <;> first | rfl | contradiction)
      | (unfold rowQ rowOne; (repeat' split) <;> first | rfl | contradiction)
  case second =>
    rintro f s2 ⟨rfl, h5, tk5, one, P, t1, Q, t2, rfl, F5, N5, rfl, rfl⟩
    clear F3 N3
    k_steps
    unfold Halt
    rename Fr _ _ _ _ => F5; rename News _ _ _ _ => N5
    obtain ⟨rb1, rb2, rb3, rb4⟩ := row_b code prime
    have hm2 : (many.toNat : Int) = many := Int.toNat_of_nonneg (Int.le_trans (by decide) hm1)
    refine while_m (RowI g' L' s _ _ _ (rowP code prime) (rowQ code prime) many.toNat) (many.toNat - 2) (RowI.intro (n := 2) F5 N5 (vs := [Value.int 0 _, Value.int 1 _]) (.cons 0 _ (.cons 1 _ .nil)) (by omega) (by omega)) ?_
    clear F5 N5
    rintro k _ ⟨h6, tk6, n, vs, c, rfl, hkn, hn2, hi, F6, N6⟩
    have hvs : vs.length ≤ sizeLine := by rw [hi.length, sizeLine_eq, lucs_len]; omega
    k_steps
    all_goals (try dsimp only)
    all_goals first
      | (rename_i hlt _
         rename Fr _ _ _ _ => F5; rename News _ _ _ _ => N5
         refine RowI.again F5 N5 hi hn2 hkn (by omega))
      | (rename_i hlt _
         refine hret h6 _ _ vs c (fun b o e => keep_of [] kg' F6 N N6 (by (repeat (first | exact List.forall_mem_nil _ | (refine List.forall_mem_cons.mpr ⟨?km, ?_⟩; (case km => first | exact .inl (by k_mem) | exact .inr (by k_mem)))))) b o e List.not_mem_nil) (News.get N6 (by k_mem)) (fresh_of (led0 := [(a0, o0)]) kg' N6 (by k_mem) (off1 (Ne.symm (Nat.ne_of_lt (by show @LT.lt Nat _ a0 _; omega))))) (by show @LT.lt Nat _ a0 _; omega) ?_
         have e : n = many.toNat := by omega
         rw [← e]; exact hi)
end Mine
end
end
section
open PySem PySem.W PyProof.Rows PySem.Calls PySem.Spec
set_option Elab.async false
set_option compiler.extract_closed false
namespace Mine
set_option maxRecDepth 100000
open LCg
noncomputable def StrSrc (prog : Program) (w : World) (A : Around) (h₀ : Heap) (L : Addr) (m : Str → Option Value) (env : Env) (elt : Expr) (x : Str) (scope : Scope) (cl : List (Str × Addr)) (Fin : Shared → List Value → List (Addr × Obj) → Prop) (xv : Value) (s₁ : Shared) : Prop :=
  ∃ y t news, xv = .str y t ∧ A.handled = none ∧ Fr h₀ L s₁.heap m ∧ News h₀ L s₁.heap news ∧ y.cps.all (· < 128) = true ∧ y.cps.size ≤ sizeLine ∧
    ∀ g, CompRest prog w A h₀ L m env elt x scope cl { s₁ with heap := g } (fun _ => True) (SignAt y) (Fin { s₁ with heap := g }) y.cps.size 0 [] news
section
variable {prog : Program} {w : World} {A : Around} {E : Value → Shared → Prop} {s : Shared} {h₀ : Heap} {L : Addr} {m : Str → Option Value} {env : Env}
theorem StrSrc.intro {elt : Expr} {x : Str} {scope : Scope} {cl : List (Str × Addr)} {Fin : Shared → List Value → List (Addr × Obj) → Prop} {y : Str} {t : Tok} {news : List (Addr × Obj)}
    (hh : A.handled = none) (F : Fr h₀ L s.heap m) (N : News h₀ L s.heap news) (ha : y.cps.all (· < 128) = true) (hsz : y.cps.size ≤ sizeLine)
    (h : ∀ g, CompRest prog w A h₀ L m env elt x scope cl { s with heap := g } (fun _ => True) (SignAt y) (Fin { s with heap := g }) y.cps.size 0 [] news) : StrSrc prog w A h₀ L m env elt x scope cl Fin (.str y t) s :=
  ⟨y, t, news, rfl, hh, F, N, ha, hsz, h⟩
theorem ListComp_S {elt iter : Expr} {x : Str} {px : Pos} {scope : Scope} {cl : List (Str × Addr)} {pos : Pos} {Q : Value → Shared → Prop} (F₀ : Fr h₀ L s.heap m)
    (hclos : closureFor scope env = pure cl) (hcell : ∀ y ∈ scope.names, y.2 ≠ .cell) (hkind : scope.kind = .function)
    (hnames : ∀ y ∈ scope.names, y.2 = .local → scope.names.lookup y.1 = some .local) (hx : scope.names.lookup x = some .local)
    (h : wpAny (model prog w) A (eval iter env) (StrSrc prog w A h₀ L m env elt x scope cl (fun s₂ => FinE h₀ L m s₂ Q)) E s)
    (hs : ∀ x, foldedSetIterable iter env x = pure x := by intro _; rfl) :
    wpAny (model prog w) A (eval (.ListComp elt [⟨.Name x px, iter, [], 0⟩] scope pos) env) Q E s := by
  rw [eval_ListComp]
  refine wpAny_comprehension_free (use := none) rfl hs hclos hkind hnames (wpAny_mono h (fun xv s₁ h₁ => ?_) fun _ _ e => e)
  obtain ⟨y, t, news, rfl, hh, F, N, ha, hsz, R⟩ := h₁
  refine wpAny_pyIter_ascii ha ?_
  refine block_U (Walks.strAscii hh s₁.heap.objs.size y t) hsz (fun i h st => by obtain ⟨o, e, _⟩ := st; exact ⟨o, e⟩)
    (fun i h h' o nw st e e' _ _ _ => by obtain ⟨o', q, r⟩ := st; rw [e] at q; cases q; exact ⟨o, e', r⟩) hcell hkind hx ⟨_, Heap.get?_push_size _ rfl, rfl, rfl⟩ (fun b hb => ?_)
    (F.keeps fun _ _ e => Heap.get?_push_of_some _ e) (N.grown fun _ _ e => Heap.get?_push_of_some _ e) (Nat.ne_of_lt F.ns.lt) (next_is_new F) (fun p hp => Nat.ne_of_lt (Heap.lt_size (N p hp).1)) trivial (R _) ?_
  · rw [List.mem_singleton.mp hb]
    show s₁.heap.objs.size < (s₁.heap.push _).objs.size
    rw [Heap.size_push]; exact Nat.lt_succ_self _
  · intro D C h tk m' ys news' F' N' o1 hn hC₀ hD₀ hCL hDL hCD offC fin
    refine ⟨m', hn, fun h'' hs'' => fin D h'' tk (F'.change hs'' hCL hC₀) (fun p hp => ?_) o1⟩
    refine ⟨hs''.extBut _ _ ?_ (N' p hp).1, (N' p hp).2⟩
    rcases List.mem_cons.mp hp with rfl | hp
    · exact Ne.symm hCD
    · exact offC p hp
theorem signs_rest {elt : Expr} {x : Str} {scope : Scope} {cl : List (Str × Addr)} {S : List (Addr × Obj) → Prop} {Fin : List Value → List (Addr × Obj) → Prop} {news : List (Addr × Obj)} {y : Str} (g : Nat → Str)
    (turn : ∀ c t I oI C oC D m₂ ys h tk (E' : Value → Shared → Prop), c ∈ y.cps.toList → LCg.NsObj oC m₂ → m₂ x = some (.str ⟨#[c]⟩ t) → Fr h₀ L h m → News h₀ L h ((I, oI) :: (C, oC) :: (D, LCg.lst ys) :: news) → LCg.Off3 I C D news → ((@Ne Nat I C) ∧ (@Ne Nat I D) ∧ (@Ne Nat C D)) →
      wpAny (model prog w) A (eval elt (compEnvC scope cl C env)) (LCg.CompEnd h₀ L m { s with heap := h, toks := tk } I oI C oC D (LCg.lst ys) S (fun y news' => KCtEl news (g c) y news')) E' { s with heap := h, toks := tk })
    (fin : ∀ ys, StrsAre ys (y.cps.toList.map g) → Fin ys news) : LCg.CompRest prog w A h₀ L m env elt x scope cl s S (SignAt y) Fin y.cps.size 0 [] news := by
  have key : ∀ (j i : Nat) (ys : List Value), i + j = y.cps.size → StrsAre ys ((y.cps.toList.take i).map g) → LCg.CompRest prog w A h₀ L m env elt x scope cl s S (SignAt y) Fin j i ys news := by
    intro j
    induction j with
    | zero =>
      intro i ys hi hy
      have e : i = y.cps.toList.length := by simp; omega
      rw [e, List.take_length] at hy
      exact LCg.CompRest.zero (fin ys hy)
    | succ j ih =>
      intro i ys hi hy
      refine LCg.CompRest.succ ?_
      intro v I oI C oC D m₂ h tk E' hv hC hx F N off ne
      obtain ⟨c, t, hk, hv'⟩ := hv
      have hk' : y.cps.toList[i]? = some c := by simpa using hk
      rw [hv'] at hx
      refine wpAny_mono (turn c t I oI C oC D m₂ ys h tk E' (List.mem_of_getElem? hk') hC hx F N off ne) (fun z s₂ hq => ?_) fun _ _ e => e
      obtain ⟨h', tk', nw, e, F', N', off', hS, hn, t', hy'⟩ := hq
      rw [hn] at N' off' hS
      refine ⟨h', tk', news, e, F', N', off', hS, ?_⟩
      rw [hy']
      refine ih (i + 1) _ (by omega) ?_
      rw [List.take_add_one, hk']
      simpa using kct_snoc hy
  exact key y.cps.size 0 [] (by omega) (by simp only [List.take_zero, List.map_nil]; exact .nil)
end
end Mine
end
section
open PySem PySem.W PyProof.Rows PySem.Calls PySem.Spec
set_option Elab.async false
set_option compiler.extract_closed false
namespace Mine
set_option maxRecDepth 100000
/-- a text with each sign escaped -/
noncomputable def escS (c : Nat) : Str := Str.ofString "\\" ++ (⟨#[c]⟩ : Str)
noncomputable def slowS (y : Str) : Str := Txt.join (Str.ofString "") (y.cps.toList.map escS)
theorem escS_cps (c : Nat) : (escS c).cps.toList = [92, c] := rfl
theorem app_cps (a b : Str) : (a ++ b).cps = a.cps ++ b.cps := rfl
theorem join_cps : ∀ l : List Str, (Txt.join (Str.ofString "") l).cps.toList = l.flatMap fun x => x.cps.toList := by
  intro l
  show (Builtin.Str.glued (Str.ofString "") l).cps.toList = _
  rw [StrLaws.glued_eq_join]
  induction l with
  | nil => rfl
  | cons x r ih =>
    cases r with
    | nil => simp [Str.join]
    | cons y r =>
      show ((x ++ Str.ofString "") ++ Str.join (Str.ofString "") (y :: r)).cps.toList = _
      rw [app_cps, app_cps, Array.toList_append, ih]
      have e : (Str.ofString "").cps = #[] := by decide
      simp [e]
theorem slowS_cps (y : Str) : (slowS y).cps.toList = y.cps.toList.flatMap fun c => [92, c] := by
  unfold slowS
  rw [join_cps, List.flatMap_map]
  rfl
theorem slowS_size (y : Str) : (slowS y).cps.size = 2 * y.cps.size := by
  have h := congrArg List.length (slowS_cps y)
  rw [Array.length_toList] at h
  rw [h, ← Array.length_toList]
  induction y.cps.toList with
  | nil => rfl
  | cons a r ih => simp only [List.flatMap_cons, List.length_append, ih, List.length_cons, List.length_nil]; omega
section
variable {prog : Program} {w : World} {A : Around} {E : Value → Shared → Prop} {s : Shared} {h₀ : Heap} {L D : Addr} {news : List (Addr × Obj)} {t : Tok} {Q : Value → Shared → Prop}
theorem join_slow {y : Str} {ys : List Value} {n : Nat} (N : News h₀ L s.heap news) (hm : (D, listOf ys.toArray n) ∈ news) (hi : StrsAre ys (y.cps.toList.map escS)) (hy : y.cps.size ≤ 3)
    (h : ∀ t' k, (slowS y).cps.size ≤ 6 → Q (.str (slowS y) t') { s with toks := k }) : wpAny (model prog w) A (call (.builtin "str.join") [.str (Str.ofString "") t, .ref D]) Q E s := by
  have hl := slowS_size y
  refine join_list (news_list N hm) hi ?_ fun t' k => h t' k (by omega)
  have e : (Str.ofString "").length = 0 := by decide
  have e2 : (List.map (fun x : Str => x.length) (List.map escS y.cps.toList)).sum = 2 * y.cps.size := by
    rw [← Array.length_toList]
    induction y.cps.toList with
    | nil => rfl
    | cons a r ih =>
      have e3 : (escS a).length = 2 := rfl
      simp only [List.map_cons, List.sum_cons, ih, e3, List.length_cons]; omega
  rw [e, e2]
  omega
end
end Mine
end
section
open PySem PySem.W PyProof.Rows PySem.Calls PySem.Spec
set_option Elab.async false
set_option compiler.extract_closed false
namespace Mine
set_option maxRecDepth 100000
section
variable {prog : Program} {w : World} {A : Around} {E : Value → Shared → Prop} {s : Shared} {h₀ : Heap} {L D b : Addr} {m : Str → Option Value} {news news' : List (Addr × Obj)} {Q : Value → Shared → Prop}
theorem fills_list_add' : fillsNumberSlot (.type "list") "add" = pure false := by
  first
  | exact F.fills_list_add
  | exact PySem.fillsNumberSlot_seq (r := none) PySem.F.slot_list_add.lookup (by decide +kernel) (by rw [typeLookup_type, builtinLookup_eq_fast]; kernel_rfl) rfl
theorem iadd_list {l1 l2 : List Value} {n n2 : Nat} (F : Fr h₀ L s.heap m) (N : News h₀ L s.heap news) (hb : (b, listOf l2.toArray n2) ∈ news) (U : Upd D (listOf l1.toArray n) (listOf (l1 ++ l2).toArray (n + 1)) news news')
    (h2 : 0 < l2.length) (hz : l1.length + l2.length ≤ 1000) (h : ∀ h', Fr h₀ L h' m → News h₀ L h' news' → Q (.ref D) { s with heap := h' }) : wpAny (model prog w) A (inplaceOp .Add (.ref D) (.ref b)) Q E s := by
  obtain ⟨pre, post, rfl, rfl, ha, hp⟩ := U.split
  have z := N (D, listOf l1.toArray n) (List.mem_append.mpr (.inr (.head _)))
  have zb := (N _ hb).1
  have tD : s.TypeIs (.ref D) "list" := (show s.heap.IsList D l1.toArray from ⟨_, z.1, rfl, n, rfl⟩).typeIs
  have tb : s.TypeIs (.ref b) "list" := (show s.heap.IsList b l2.toArray from ⟨_, zb, rfl, n2, rfl⟩).typeIs
  have hfi : fillsInplaceSlot (.type "list") "add" (Operator.Add == .Add) = pure false := by
    unfold fillsInplaceSlot
    show (typeLookup (.type "list") (dunderI "add") >>= fun fi => pure (fi.isSome && !isSeqSlot fi)) = pure false
    rw [PySem.F.slot_list_iadd.lookup]; rfl
  have hsi : seqSlot? (.type "list") (dunderI "add") = pure (some (.builtin "list.__iadd__")) := PySem.seqSlot_of PySem.F.slot_list_iadd.lookup (by decide +kernel)
  unfold inplaceOp
  refine wpAny_holding ?_
  refine wpAny_bind (wpAny_typeOf tD (wpAny_bind (wpAny_of_eq hfi ?_)))
  show wpAny _ A (if false = true then _ else _) Q E s
  rw [if_neg Bool.false_ne_true]
  refine wpAny_bind (wpAny_binaryOp1_none (nm := "add") tD tb fills_list_add' ?_)
  refine wpAny_bind (wpAny_of_eq hsi ?_)
  refine wpAny_bind (wpAny_rule ?_)
  have hs : l1.toArray.size + l2.toArray.size ≤ 1000 := by simpa using hz
  refine call_meets PySem.F.slot_list_iadd tD PySem.F.entry_list_iadd (PySem.F.args_list_iadd_2 _ _) (PySem.AutoSeq1.list___iadd___list_list_0 D l1.toArray n b l2.toArray n2 ?_ (by rw [sizeLine_eq]; omega) (by rw [sizeLine_eq]; omega)) ⟨z.1, zb, ?_⟩
  · have : Builtin.List.listTooLong (l1.toArray.size + l2.toArray.size) = false := by
      unfold Builtin.List.listTooLong
      simp only [decide_eq_false_iff_not, sizeLine_eq]
      omega
    rw [this]; simp
  · have hu : Obj.mapSeq (fun x => x ++ l2.toArray) (listOf l1.toArray n) = listOf (l1 ++ l2).toArray (n + 1) := by
      have h3 : (l1.toArray ++ l2.toArray).size ≠ l1.toArray.size := by
        rw [Array.size_append]
        have h4 : l2.toArray.size = l2.length := by simp
        omega
      have h5 : ((l1.toArray ++ l2.toArray).size == l1.toArray.size) = false := beq_eq_false_iff_ne.mpr h3
      show Obj.mk _ _ (Data.seq (l1.toArray ++ l2.toArray) (if ((l1.toArray ++ l2.toArray).size == l1.toArray.size) = true then n else n + 1)) _ = _
      rw [h5]
      simp [W.listOf]
    refine h _ (F.change (Heap.SameBut.update ..) z.2.1 z.2.2) (news_set N ha hp (Heap.SameBut.update ..) ?_)
    rw [Heap.get?_update_self _ z.1 (by rw [hu]; rfl), hu]
end
end Mine
end
section
open PySem PySem.W PyProof.Rows PySem.Calls
set_option Elab.async false
set_option compiler.extract_closed false
namespace Mine
set_option maxRecDepth 100000
set_option maxHeartbeats 8000000




noncomputable def nm (k : Int) : Str := namesX.getD k.toNat ⟨#[]⟩
theorem namesX_len : namesX.length = 48 := by simp [namesX]
theorem nm_ascii : ∀ y ∈ namesX, y.cps.all (· < 128) = true := by
  have : (namesX.all fun y => y.cps.all (· < 128)) = true := by decide +kernel
  intro y hy
  exact List.all_eq_true.mp this y hy
theorem nm_small : ∀ y ∈ namesX, y.cps.size ≤ 3 := by
  have : (namesX.all fun y => decide (y.cps.size ≤ 3)) = true := by decide +kernel
  intro y hy
  exact of_decide_eq_true (List.all_eq_true.mp this y hy)
section
variable {prog : Program} {w : World} {A : Around} {E : Value → Shared → Prop} {s : Shared} {h₀ : Heap} {L D : Addr} {m : Str → Option Value}
theorem itemN {value slice : Expr} {nl : Addr} {nv : List Value} {k : Int} {u : Tok} {R : Value → Shared → Prop} (F : Fr h₀ L s.heap m) (hl : h₀.IsList nl nv.toArray) (hn : StrsAre nv namesX) (hk : 0 ≤ k) (hk2 : k < 48)
    (h : ∀ t, (nm k).cps.size ≤ 3 → (nm k).cps.all (· < 128) = true → R (.str (nm k) t) s)
    (hs : subscripted slice false (.ref nl) (.int k u) = operate [.ref nl, .int k u] (getItem (.ref nl) (.int k u)) := by with_unfolding_all rfl) (hg : ∀ r, letTemporaryGo value (.ref nl) r = pure () := by intro _; with_unfolding_all rfl) :
    wpAny (model prog w) A (subscriptTail value slice (.ref nl) (.int k u)) R E s := by
  have hx : namesX[k.toNat]? = some (nm k) := by
    have : k.toNat < namesX.length := by rw [namesX_len]; omega
    unfold nm
    rw [List.getD_eq_getElem?_getD, List.getElem?_eq_getElem this]; rfl
  obtain ⟨t, hx'⟩ := hn.get k.toNat _ hx
  exact item_list (F.lst hl) hk (by omega) (by simpa using hx') (h t (nm_small _ (List.mem_of_getElem? hx)) (nm_ascii _ (List.mem_of_getElem? hx))) hs hg
end
section
variable {prog : Program} {w : World} {A : Around} {E : Value → Shared → Prop} {s : Shared} {h₀ : Heap} {L D : Addr} {m : Str → Option Value} {news : List (Addr × Obj)}
theorem itemF {value slice : Expr} {vs : List Value} {ys : List Str} {c : Nat} {k : Int} {u : Tok} {R : Value → Shared → Prop} (N : News h₀ L s.heap news) (hm : (D, listOf vs.toArray c) ∈ news) (hi : StrsAre vs ys) (hsz : ∀ y ∈ ys, y.cps.size ≤ 16) (hk : 0 ≤ k) (hk2 : k < ys.length) (hk3 : k < 100)
    (h : ∀ t, (ys.getD k.toNat ⟨#[]⟩).cps.size ≤ 16 → R (.str (ys.getD k.toNat ⟨#[]⟩) t) s)
    (hs : subscripted slice false (.ref D) (.int k u) = operate [.ref D, .int k u] (getItem (.ref D) (.int k u)) := by with_unfolding_all rfl) (hg : ∀ r, letTemporaryGo value (.ref D) r = pure () := by intro _; with_unfolding_all rfl) :
    wpAny (model prog w) A (subscriptTail value slice (.ref D) (.int k u)) R E s := by
  have hx : ys[k.toNat]? = some (ys.getD k.toNat ⟨#[]⟩) := by
    have : k.toNat < ys.length := by omega
    rw [List.getD_eq_getElem?_getD, List.getElem?_eq_getElem this]; rfl
  obtain ⟨t, hx'⟩ := hi.get k.toNat _ hx
  exact item_list (news_list N hm) hk (by omega) (by simpa using hx') (h t (hsz _ (List.mem_of_getElem? hx))) hs hg
theorem itemF4 {value slice : Expr} {a0 a1 a2 a3 : Str} {t0 t1 t2 t3 : Tok} {c : Nat} {j : Int} {u : Tok} {R : Value → Shared → Prop} (N : News h₀ L s.heap news) (hm : (D, listOf #[Value.str a0 t0, Value.str a1 t1, Value.str a2 t2, Value.str a3 t3] c) ∈ news) (z0 : a0.cps.size ≤ 16) (z1 : a1.cps.size ≤ 16) (z2 : a2.cps.size ≤ 16) (z3 : a3.cps.size ≤ 16)
    (h : ∀ (y : Str) t, y = [a0, a1, a2, a3].getD (Int.fmod j 4).toNat ⟨#[]⟩ → y.cps.size ≤ 16 → R (.str y t) s)
    (hs : subscripted slice false (.ref D) (.int (Int.fmod j 4) u) = operate [.ref D, .int (Int.fmod j 4) u] (getItem (.ref D) (.int (Int.fmod j 4) u)) := by with_unfolding_all rfl) (hg : ∀ r, letTemporaryGo value (.ref D) r = pure () := by intro _; with_unfolding_all rfl) :
    wpAny (model prog w) A (subscriptTail value slice (.ref D) (.int (Int.fmod j 4) u)) R E s := by
  have h1 := Int.fmod_nonneg_of_pos j (show (0:Int) < 4 by decide)
  have h2 := Int.fmod_lt_of_pos j (show (0:Int) < 4 by decide)
  exact itemF (vs := [Value.str a0 t0, Value.str a1 t1, Value.str a2 t2, Value.str a3 t3]) (ys := [a0, a1, a2, a3]) N hm (.cons a0 t0 (.cons a1 t1 (.cons a2 t2 (.cons a3 t3 .nil)))) (List.forall_mem_cons.mpr ⟨z0, List.forall_mem_cons.mpr ⟨z1, List.forall_mem_cons.mpr ⟨z2, List.forall_mem_cons.mpr ⟨z3, List.forall_mem_nil _⟩⟩⟩⟩) h1 (by simp only [List.length_cons, List.length_nil]; omega) (by omega) (fun t hz => h _ t rfl hz) hs hg
theorem itemF9 {value slice : Expr} {a0 a1 a2 a3 a4 a5 a6 a7 a8 : Str} {t0 t1 t2 t3 t4 t5 t6 t7 t8 : Tok} {c : Nat} {j : Int} {u : Tok} {R : Value → Shared → Prop} (N : News h₀ L s.heap news) (hm : (D, listOf #[Value.str a0 t0, Value.str a1 t1, Value.str a2 t2, Value.str a3 t3, Value.str a4 t4, Value.str a5 t5, Value.str a6 t6, Value.str a7 t7, Value.str a8 t8] c) ∈ news) (z0 : a0.cps.size ≤ 16) (z1 : a1.cps.size ≤ 16) (z2 : a2.cps.size ≤ 16) (z3 : a3.cps.size ≤ 16) (z4 : a4.cps.size ≤ 16) (z5 : a5.cps.size ≤ 16) (z6 : a6.cps.size ≤ 16) (z7 : a7.cps.size ≤ 16) (z8 : a8.cps.size ≤ 16)
    (h : ∀ (y : Str) t, y = [a0, a1, a2, a3, a4, a5, a6, a7, a8].getD (Int.fmod j 9).toNat ⟨#[]⟩ → y.cps.size ≤ 16 → R (.str y t) s)
    (hs : subscripted slice false (.ref D) (.int (Int.fmod j 9) u) = operate [.ref D, .int (Int.fmod j 9) u] (getItem (.ref D) (.int (Int.fmod j 9) u)) := by with_unfolding_all rfl) (hg : ∀ r, letTemporaryGo value (.ref D) r = pure () := by intro _; with_unfolding_all rfl) :
    wpAny (model prog w) A (subscriptTail value slice (.ref D) (.int (Int.fmod j 9) u)) R E s := by
  have h1 := Int.fmod_nonneg_of_pos j (show (0:Int) < 9 by decide)
  have h2 := Int.fmod_lt_of_pos j (show (0:Int) < 9 by decide)
  exact itemF (vs := [Value.str a0 t0, Value.str a1 t1, Value.str a2 t2, Value.str a3 t3, Value.str a4 t4, Value.str a5 t5, Value.str a6 t6, Value.str a7 t7, Value.str a8 t8]) (ys := [a0, a1, a2, a3, a4, a5, a6, a7, a8]) N hm (.cons a0 t0 (.cons a1 t1 (.cons a2 t2 (.cons a3 t3 (.cons a4 t4 (.cons a5 t5 (.cons a6 t6 (.cons a7 t7 (.cons a8 t8 .nil))))))))) (List.forall_mem_cons.mpr ⟨z0, List.forall_mem_cons.mpr ⟨z1, List.forall_mem_cons.mpr ⟨z2, List.forall_mem_cons.mpr ⟨z3, List.forall_mem_cons.mpr ⟨z4, List.forall_mem_cons.mpr ⟨z5, List.forall_mem_cons.mpr ⟨z6, List.forall_mem_cons.mpr ⟨z7, List.forall_mem_cons.mpr ⟨z8, List.forall_mem_nil _⟩⟩⟩⟩⟩⟩⟩⟩⟩) h1 (by simp only [List.length_cons, List.length_nil]; omega) (by omega) (fun t hz => h _ t rfl hz) hs hg
theorem iadd49 {a0 a1 a2 a3 a4 a5 a6 a7 a8 : Str} {t0 t1 t2 t3 t4 t5 t6 t7 t8 : Tok} {b : Addr} {news' : List (Addr × Obj)} {n n2 : Nat} {Q : Value → Shared → Prop} (F : Fr h₀ L s.heap m) (N : News h₀ L s.heap news) (hb : (b, listOf #[Value.str a4 t4, Value.str a5 t5, Value.str a6 t6, Value.str a7 t7, Value.str a8 t8] n2) ∈ news) (U : Upd D (listOf #[Value.str a0 t0, Value.str a1 t1, Value.str a2 t2, Value.str a3 t3] n) (listOf #[Value.str a0 t0, Value.str a1 t1, Value.str a2 t2, Value.str a3 t3, Value.str a4 t4, Value.str a5 t5, Value.str a6 t6, Value.str a7 t7, Value.str a8 t8] (n + 1)) news news')
    (h : ∀ h', Fr h₀ L h' m → News h₀ L h' news' → Q (.ref D) { s with heap := h' }) : wpAny (model prog w) A (inplaceOp .Add (.ref D) (.ref b)) Q E s :=
  iadd_list (l1 := [Value.str a0 t0, Value.str a1 t1, Value.str a2 t2, Value.str a3 t3]) (l2 := [Value.str a4 t4, Value.str a5 t5, Value.str a6 t6, Value.str a7 t7, Value.str a8 t8]) F N hb U (by simp) (by simp) h
end
noncomputable abbrev mkTx (figv whv nav slv fov : Option Value) (st : Int) (tst : Tok) (tx : Str) (ttx : Tok) (fl nl : Addr) (nought : Int) (tn : Tok) (look : Int) (tl : Tok) : Str → Option Value := fun y =>
  if y = Str.ofString "text" then some (.str tx ttx) else if y = Str.ofString "style" then some (.int st tst) else if y = Str.ofString "figure" then figv else if y = Str.ofString "white" then whv else if y = Str.ofString "name" then nav else if y = Str.ofString "slow" then slv else if y = Str.ofString "forms" then fov
  else if y = Str.ofString "figures" then some (.ref fl) else if y = Str.ofString "names" then some (.ref nl) else if y = Str.ofString "nought" then some (.int nought tn) else if y = Str.ofString "look" then some (.int look tl) else none
/-- the style's next number -/
noncomputable def stepZ (look st : Int) : Int := Int.fmod (st + Int.fdiv look 1476) 36
noncomputable def styZ (look : Int) : Int → List Int → Int
  | st, [] => st
  | st, _ :: r => styZ look (stepZ look st) r
noncomputable def whZ (st : Int) : Str := Txt.item (Str.ofString "\n\t\x0d ") (Int.fmod st 4)
noncomputable def q1 : Str := Str.ofString "\""
noncomputable def forms4 (wh y : Str) : List Str := [y ++ wh, slowS y ++ wh, wh ++ Str.ofString "\"" ++ y ++ Str.ofString "\"", wh ++ Str.ofString "\"" ++ slowS y ++ Str.ofString "\""]
noncomputable def forms9 (wh y : Str) : List Str := [y ++ wh, slowS y ++ wh, wh ++ Str.ofString "\"" ++ y ++ Str.ofString "\"", wh ++ Str.ofString "\"" ++ slowS y ++ Str.ofString "\"",
  Str.ofString "\"\"", Str.ofString "\"" ++ wh ++ Str.ofString "\"", Str.ofString "\"\\\"\"", Str.ofString "a\"" ++ wh, Str.ofString "\\" ++ wh ++ wh]
/-- a figure's word -/
noncomputable def wordZ (nought st x : Int) : Str :=
  if x = 0 then (forms9 (whZ st) (nm (nought - 7 + x))).getD (Int.fmod (Int.fdiv st 4) 9).toNat ⟨#[]⟩ else (forms4 (whZ st) (nm (nought - 7 + x))).getD (Int.fmod (Int.fdiv st 4) 4).toNat ⟨#[]⟩
noncomputable def wordsZ (look nought : Int) : Int → List Int → List Str
  | _, [] => []
  | st, x :: r => wordZ nought (stepZ look st) x :: wordsZ look nought (stepZ look st) r
theorem styZ_snoc (look st : Int) (l : List Int) (x : Int) : styZ look st (l ++ [x]) = stepZ look (styZ look st l) := by
  induction l generalizing st with
  | nil => rfl
  | cons a r ih => exact ih _
theorem wordsZ_snoc (look nought st : Int) (l : List Int) (x : Int) : wordsZ look nought st (l ++ [x]) = wordsZ look nought st l ++ [wordZ nought (stepZ look (styZ look st l)) x] := by
  induction l generalizing st with
  | nil => rfl
  | cons a r ih => show _ :: wordsZ _ _ _ (r ++ [x]) = _ :: _; rw [ih]; rfl
noncomputable def textZ (look nought : Int) (fs : List Int) : Str := (wordsZ look nought (Int.fdiv look 41) fs).foldl (· ++ ·) (Str.ofString "")
noncomputable def TxJ (fs : List Int) (fl nl : Addr) (nought : Int) (tn : Tok) (look : Int) (tl : Tok) (i : Nat) (m : Str → Option Value) (nx : List (Addr × Obj)) : Prop :=
  ∃ figv whv nav slv fov st tst tx ttx, nx = [] ∧ tx.cps.size ≤ 20 * i ∧ st = styZ look (Int.fdiv look 41) (fs.take i) ∧ tx = textZ look nought (fs.take i) ∧ m = mkTx figv whv nav slv fov st tst tx ttx fl nl nought tn look tl
theorem TxJ.end_ {g' h' : Heap} {L' : Nat} {fs : List Int} {fl nl : Addr} {i : Nat} {x st nought look : Int} {tn tl tst ttx : Tok} {a b c d e : Option Value} {tx y : Str} {own news' : List (Addr × Obj)} {s₁ : Shared} {tk' : Nat} (hx : fs[i]? = some x) (hz : tx.cps.size ≤ 20 * i)
    (hst : st = styZ look (Int.fdiv look 41) (fs.take i)) (htx : tx = textZ look nought (fs.take i)) (hy : y = wordZ nought (stepZ look st) x) (hyz : y.cps.size ≤ 16)
    (F : Fr g' L' h' (mkTx a b c d e (stepZ look st) tst (tx ++ y) ttx fl nl nought tn look tl)) (N : News g' L' h' news') (ho : ∀ p ∈ own, p ∈ news') :
    InvEndN g' L' (TxJ fs fl nl nought tn look tl (i + 1)) own [] s₁ { s₁ with heap := h', toks := tk' } := by
  have ht : fs.take (i + 1) = fs.take i ++ [x] := by simp [List.take_add_one, hx]
  refine InvEndN.intro F N (nx := []) ⟨_, _, _, _, _, _, _, _, _, rfl, ?_, ?_, ?_, rfl⟩ rfl (fun p hp => nomatch hp) ho
  · rw [app_cps, Array.size_append]; omega
  · rw [ht, styZ_snoc, hst]
  · unfold textZ at htx ⊢
    rw [ht, wordsZ_snoc, List.foldl_append, ← htx, ← hst, ← hy]; rfl
namespace HM5
theorem k_call_builtin_str_join {P : Prop} (h : Halt P) : P := h
theorem k_eval_ListComp {P : Prop} (h : Halt P) : P := h
theorem k_inplaceOp_Add_ref_ref {P : Prop} (h : Halt P) : P := h
theorem k_inplaceOp_Add_str_str {P : Prop} (h : Halt P) : P := h
theorem k_binaryOp_Add_str_str {P : Prop} (h : Halt P) : P := h
theorem k_subscriptTail_Name_BinOp_ref_int {P : Prop} (h : Halt P) : P := h
theorem k_InvEndN {P : Prop} (h : Halt P) : P := h
theorem k_CompEnd {P : Prop} (h : Halt P) : P := h
theorem k_exec_For_Name_Name_cons_nil {M : Model} {A : Around} {E : Value → Shared → Prop} {s : Shared} {env : Env} {p q r : Pos} {b : List Stmt} {Q : Flow → Shared → Prop} (h : Halt (wpAny M A (exec (.For (.Name (Str.ofString "figure") p) (.Name (Str.ofString "figures") q) b [] r) env) Q E s)) : wpAny M A (exec (.For (.Name (Str.ofString "figure") p) (.Name (Str.ofString "figures") q) b [] r) env) Q E s := h
end HM5
open HM5
theorem isz (x : Str) (i : Int) : (Txt.item x i).cps.size = 1 := rfl
theorem lsz1 : (Str.ofString "\"").cps.size = 1 := by decide
theorem lsz2 : (Str.ofString "\\").cps.size = 1 := by decide
theorem lsz3 : (Str.ofString "a\"").cps.size = 2 := by decide
theorem c_text (w : World) (p : Program) (loose : List Str) (mean : ExcName → Option Value) (mg mb : Str → Option Value) (fl nl : Addr) (fv nv : List Value) (fs : List Int) (c1 c2 : Nat) (nought look : Int) (tn tl : Tok) (hi : IntsAre fv fs) (hn : StrsAre nv namesX) (hpos : ∀ x ∈ fs, 0 ≤ x ∧ x < 8) (hlen : fs.length < 100) (hno : 7 ≤ nought ∧ nought < 48) :
  ∀ (dp un : Nat) (gd : Option (List Code)) (env : Env) (outer : List Env) (A₀ : Around) (base h₀ : Heap) (L : Addr) (m : Str → Option Value) (s : Shared) (R : Result → Shared → Prop),
    Below A₀ base outer h₀ → Fr h₀ L s.heap m → (hd.heap_39 w.params).In h₀ → 
    News h₀ L s.heap [] → s.heap.get? fl = some (listOf fv.toArray c1) → s.heap.get? nl = some (listOf nv.toArray c2) → Top p loose mean mg mb h₀ → env.frame = some L → env.scope.kind = .function → 
    dp + 9 < recursionLimit → un + 100 < cLine →
    (∀ h' tk' x t, (∀ b o, s.heap.get? b = some o → h'.get? b = some o) → x = textZ look nought fs → R (.ok (.ret (.str x t))) { s with heap := h', toks := tk' }) →
      codeAny (model Mine.rwv.row.prog w) (tA dp un gd env outer) (.call (.ref 113) ⟨[.ref fl, .ref nl, .int nought tn, .int look tl], []⟩) R s := by
  k_fill
  intro dp un gd env outer A₀ base h₀ L m s R B F X₀ N hfl hnl T hf hke hdp hun hret
  (refine' my_enter ?k1 ?k2 ?k3 ?k4 ?k5 ?kA ?kF ?kK ?k6 ?kd ?k7 ?k8 ?k9 ?kB ?_ ?c2 ?c3 ?c4 ?c5; (case kA => rfl); (case kF => assumption); (case kK => assumption); (case k1 => k_asm); (case k2 => k_asm); (case k3 => k_asm); (case k4 => k_asm); (case k5 => k_asm); (case k6 => (first | exact Frag.In.keeps (by k_asm) (Fr.keep (by k_asm)) _ _ (by k_is))); (case kd => rfl); (case k7 => exact codeRec_of (Frag.In.keeps (by k_asm) (Fr.keep (by k_asm))) (by k_is)); (case k8 => ktr_room); (case k9 => exact BindsTo.of_eq rfl); (case c2 => decide); (case kB => exact locs rfl); (case c3 => exact rfl); (case c4 => exact rfl); (case c5 => exact rfl); k_whole; intro g' L' h1 kg' F' N' B' X' T' l1; (try k_lt l1); (try dsimp only); (try k_lift B'); (try k_fold))
  have hfl' : g'.IsList fl fv.toArray := ⟨_, kg' _ _ hfl List.not_mem_nil, rfl, c1, rfl⟩
  have hnl' : g'.IsList nl nv.toArray := ⟨_, kg' _ _ hnl List.not_mem_nil, rfl, c2, rfl⟩
  k_steps
  rename Fr _ _ _ _ => F5; rename News _ _ _ _ => N5
  have F8 := fr_eq (m' := mkTx none none none none none _ _ (Str.ofString "") _ fl nl nought tn look tl) F5 (by
    funext y
    by_cases h1 : y = Str.ofString "text"
    · subst h1; rfl
    by_cases h2 : y = Str.ofString "style"
    · subst h2; rfl
    by_cases h3 : y = Str.ofString "figure"
    · subst h3; rfl
    by_cases h4 : y = Str.ofString "white"
    · subst h4; rfl
    by_cases h5 : y = Str.ofString "name"
    · subst h5; rfl
    by_cases h6 : y = Str.ofString "slow"
    · subst h6; rfl
    by_cases h7 : y = Str.ofString "forms"
    · subst h7; rfl
    by_cases h8 : y = Str.ofString "figures"
    · subst h8; rfl
    by_cases h9 : y = Str.ofString "names"
    · subst h9; rfl
    by_cases h10 : y = Str.ofString "nought"
    · subst h10; rfl
    by_cases h11 : y = Str.ofString "look"
    · subst h11; rfl
    simp only [mkTx, if_neg h1, if_neg h2, if_neg h3, if_neg h4, if_neg h5, if_neg h6, if_neg h7, if_neg h8, if_neg h9, if_neg h10, if_neg h11]
    exact lookup4_none h11 h10 h9 h8)
  clear F5
  unfold Halt
  refine For_invVF F8 rfl rfl ?_
  refine nameX_L F8 rfl ?_
  refine iter_invN (TxJ fs fl nl nought tn look tl) rfl hfl' hi F8 N5 ⟨none, none, none, none, none, _, _, Str.ofString "", _, rfl, (by decide), rfl, rfl, rfl⟩ ?_ ?_
  · rintro i x t m₁ _ h tk own hx _ hoff ⟨figv, whv, nav, slv, fov, st, tst, tx, ttx, rfl, htx, hst, htxt, rfl⟩ F6 N6
    clear F8 N5
    have hxp := hpos x (List.mem_of_getElem? hx)
    have hil : i < 100 := by have := (List.getElem?_eq_some_iff.mp hx).1; omega
    k_steps
    all_goals repeat' (refine Halt.un ?_; (first
      | ((with_reducible show wpAny _ _ (subscriptTail _ _ _ _) _ _ _); first
        | (k_dflt (refine' itemN (by k_asm) (by assumption) (by assumption) (by omega) (by omega) ?_); intro tk' hsz' hasc')
        | ((with_reducible show wpAny _ _ (subscriptTail _ _ (Value.ref _) (Value.int (Int.fmod _ 4) _)) _ _ _); k_dflt (refine' itemF4 (by k_asm) (by k_mem) (by first | (simp only [Str.length, app_cps, Array.size_append, isz, lsz1, lsz2, lsz3, PySem.sizeLine_eq]; omega) | decide) (by first | (simp only [Str.length, app_cps, Array.size_append, isz, lsz1, lsz2, lsz3, PySem.sizeLine_eq]; omega) | decide) (by first | (simp only [Str.length, app_cps, Array.size_append, isz, lsz1, lsz2, lsz3, PySem.sizeLine_eq]; omega) | decide) (by first | (simp only [Str.length, app_cps, Array.size_append, isz, lsz1, lsz2, lsz3, PySem.sizeLine_eq]; omega) | decide) ?_); intro y' tk' hy' hwsz')
        | ((with_reducible show wpAny _ _ (subscriptTail _ _ (Value.ref _) (Value.int (Int.fmod _ 9) _)) _ _ _); k_dflt (refine' itemF9 (by k_asm) (by k_mem) (by first | (simp only [Str.length, app_cps, Array.size_append, isz, lsz1, lsz2, lsz3, PySem.sizeLine_eq]; omega) | decide) (by first | (simp only [Str.length, app_cps, Array.size_append, isz, lsz1, lsz2, lsz3, PySem.sizeLine_eq]; omega) | decide) (by first | (simp only [Str.length, app_cps, Array.size_append, isz, lsz1, lsz2, lsz3, PySem.sizeLine_eq]; omega) | decide) (by first | (simp only [Str.length, app_cps, Array.size_append, isz, lsz1, lsz2, lsz3, PySem.sizeLine_eq]; omega) | decide) (by first | (simp only [Str.length, app_cps, Array.size_append, isz, lsz1, lsz2, lsz3, PySem.sizeLine_eq]; omega) | decide) (by first | (simp only [Str.length, app_cps, Array.size_append, isz, lsz1, lsz2, lsz3, PySem.sizeLine_eq]; omega) | decide) (by first | (simp only [Str.length, app_cps, Array.size_append, isz, lsz1, lsz2, lsz3, PySem.sizeLine_eq]; omega) | decide) (by first | (simp only [Str.length, app_cps, Array.size_append, isz, lsz1, lsz2, lsz3, PySem.sizeLine_eq]; omega) | decide) (by first | (simp only [Str.length, app_cps, Array.size_append, isz, lsz1, lsz2, lsz3, PySem.sizeLine_eq]; omega) | decide) ?_); intro y' tk' hy' hwsz'))
      | ((with_reducible show wpAny _ _ (inplaceOp _ _ _) _ _ _); first
        | (k_dflt (refine SB.iadd (hsz := by (simp only [Str.length, app_cps, Array.size_append, isz, lsz1, lsz2, lsz3, PySem.sizeLine_eq]; omega)) ?_); intro tk1' tk2')
        | (k_dflt (refine' iadd49 (by k_asm) (by k_asm) (by k_mem) (by k_upd) ?_); kl_rest))
      | ((with_reducible show wpAny _ _ (binaryOp _ _ _) _ _ _); first
        | (k_dflt (refine SB.add (hsz := by (simp only [Str.length, app_cps, Array.size_append, isz, lsz1, lsz2, lsz3, PySem.sizeLine_eq]; omega)) ?_); intro tk1' tk2')
        | (refine KLn.add_r (by kln_le) (by kln_w) (by decide) ?_; intro _ _ _ _ _)
        | (refine KLn.add_l (by kln_w) (by kln_le) (by decide) ?_; intro _ _ _ _ _)
        | (refine KLn.add_n (by kln_le) (by kln_le) (by decide) ?_; intro _ _ _ _ _ _)
        | (refine' KXadd.add (by kt_len) (by kt_len) (by exact Nat.le_of_ble_eq_true rfl) ?_; intro _ _ _)
        | (refine' SBL.add (hsz := by size_fits) ?_; intro _ _ _)
        | (refine add_str ?_; intro _ _))
      | ((with_reducible show wpAny _ _ (call _ _ _) _ _ _); k_dflt (refine' join_slow (by k_asm) (by k_mem) (by assumption) (by assumption) ?_); intro tk1' tk2' hsl')
      | ((with_reducible show wpAny _ _ (eval _ _) _ _ _); k_dflt (refine ListComp_S (F₀ := by k_asm) (by with_unfolding_all rfl) (by decide) (by rfl) (by decide) (by rfl) ?_); k_dflt (refine nameX_L (by k_asm) rfl ?_); k_dflt (refine StrSrc.intro rfl (by k_asm) (by k_asm) (by assumption) (by rw [PySem.sizeLine_eq]; omega) ?_); intro g'; (refine' signs_rest escS (fun c' t' I' oI' C' oC' D' m' ys' h' tk' E' hk' hC' hx' F' N' off' ne' => ?_) ?_); (all_goals (try (simp only [LCg.Off3, and_true] at off'))))
      | (refine LCg.CompEnd.intro (by k_asm) (by k_asm) _ (fun _ hp => hp) (by assumption) True.intro ⟨rfl, _, rfl⟩)); all_goals (try k_steps))
    · rename @Eq Str _ (List.getD _ _ _) => hy
      rename Fr _ _ _ _ => F5; rename News _ _ _ _ => N5
      have F8 := fr_eq (m' := mkTx _ _ _ _ _ _ _ _ _ fl nl nought tn look tl) F5 (by
        funext y
        by_cases h1 : y = Str.ofString "text"
        · subst h1; rfl
        by_cases h2 : y = Str.ofString "style"
        · subst h2; rfl
        by_cases h3 : y = Str.ofString "figure"
        · subst h3; rfl
        by_cases h4 : y = Str.ofString "white"
        · subst h4; rfl
        by_cases h5 : y = Str.ofString "name"
        · subst h5; rfl
        by_cases h6 : y = Str.ofString "slow"
        · subst h6; rfl
        by_cases h7 : y = Str.ofString "forms"
        · subst h7; rfl
        simp only [mkTx, if_neg h1, if_neg h2, if_neg h3, if_neg h4, if_neg h5, if_neg h6, if_neg h7])
      unfold Halt
      refine TxJ.end_ hx htx hst htxt ?hy ?hyz F8 N5 (by intro p hp; k_ownIn)
      case hy => refine hy.trans ?_; unfold wordZ; rw [if_pos (by assumption)]; rfl
      case hyz => assumption
    · rename @Eq Str _ (List.getD _ _ _) => hy
      rename Fr _ _ _ _ => F5; rename News _ _ _ _ => N5
      have F8 := fr_eq (m' := mkTx _ _ _ _ _ _ _ _ _ fl nl nought tn look tl) F5 (by
        funext y
        by_cases h1 : y = Str.ofString "text"
        · subst h1; rfl
        by_cases h2 : y = Str.ofString "style"
        · subst h2; rfl
        by_cases h3 : y = Str.ofString "figure"
        · subst h3; rfl
        by_cases h4 : y = Str.ofString "white"
        · subst h4; rfl
        by_cases h5 : y = Str.ofString "name"
        · subst h5; rfl
        by_cases h6 : y = Str.ofString "slow"
        · subst h6; rfl
        by_cases h7 : y = Str.ofString "forms"
        · subst h7; rfl
        simp only [mkTx, if_neg h1, if_neg h2, if_neg h3, if_neg h4, if_neg h5, if_neg h6, if_neg h7])
      unfold Halt
      refine TxJ.end_ hx htx hst htxt ?hy ?hyz F8 N5 (by intro p hp; k_ownIn)
      case hy => refine hy.trans ?_; unfold wordZ; rw [if_neg (by assumption)]; rfl
      case hyz => assumption
  · rintro m₁ _ h tk ⟨figv, whv, nav, slv, fov, st, tst, tx, ttx, rfl, htx, hst, htxt, rfl⟩ F6 N6
    clear F8 N5
    k_steps
    (try dsimp only)
    refine hret h tk tx ttx (fun b o e => F6.keep b o (kg' b o e List.not_mem_nil)) ?_
    rw [List.take_length] at htxt
    exact htxt
end Mine
end
section
open PySem PySem.W PyProof.Rows PySem.Calls PySem.Spec
set_option Elab.async false
set_option compiler.extract_closed false
namespace Mine
set_option maxRecDepth 100000
section
variable {M : Model} {A : Around} {R : GenEnd} {Y : Protocol} {n : Nat} {s₀ : Shared} {c : Code} {fs : List Frame} {s : Shared} {env : Env}
  {K : Flow → Sem Fin} {H : Value → Sem Fin} {gd : Bool → Bool} {lv : List Value → List Value}
theorem seg_stmt {st : Stmt} (h : wpAny M (A.over c fs) (exec st env) (fun f s' => Seg M A R Y n s₀ c (K f) fs s') (fun _ _ => False) s) :
    Seg M A R Y n s₀ c ((exec st env).wrap K H gd lv) fs s := seg_wrap (wpAny_mono h (fun _ _ x => x) fun _ _ e => e.elim)
theorem seg_If {test : Expr} {body orelse : List Stmt} {pos : Pos}
    (h : wpAny M (A.over c fs) (isTrue test env (eval test env)) (fun b s' => if b = true then Seg M A R Y n s₀ c ((execs body env).wrap K H gd lv) fs s' else Seg M A R Y n s₀ c ((execs orelse env).wrap K H gd lv) fs s') (fun _ _ => False) s) :
    Seg M A R Y n s₀ c ((exec (.If test body orelse pos) env).wrap K H gd lv) fs s := by
  rw [exec_If]
  show Seg M A R Y n s₀ c (.at pos fun _ => (isTrue test env (eval test env) >>= fun b => if b = true then execs body env else execs orelse env).wrap K H gd lv) fs s
  refine seg_at ?_
  rw [Sem.bind_eq_wrap', Sem.wrap_wrap]
  refine seg_wrap (wpAny_mono h (fun b s' hb => ?_) fun _ _ e => e.elim)
  cases b with
  | true => simpa using hb
  | false => simpa using hb
theorem seg_For {target iter : Expr} {body orelse : List Stmt} {pos : Pos}
    (h : wpAny M (A.over c fs) (eval iter env) (fun x s₁ => wpAny M (A.over c fs) (pyIter x) (fun it s₂ => ∀ p,
      Seg M A R Y n s₀ (.forLoop target it body orelse env) (M.den (.forLoop target it body orelse env))
      (.ret (fun r => ((match r with | .ok f => (.pure f : Sem Flow) | .error e => .raise e).onRaise fun (x : Value) => do
        if (← field x 1) == Value.none then unsupported "frame.own-activation:exception-without-traceback"
        setFlight x env.frame).wrap K H gd lv) none (gd false) (lv []) c p [] :: fs) s₂) (fun _ _ => False) s₁) (fun _ _ => False) s)
    (hs : ∀ x, foldedSetIterable iter env x = pure x := by intro _; rfl) :
    Seg M A R Y n s₀ c ((exec (.For target iter body orelse pos) env).wrap K H gd lv) fs s := by
  rw [exec_For]
  show Seg M A R Y n s₀ c (.at pos fun _ => (eval iter env >>= fun x0 => foldedSetIterable iter env x0 >>= fun x => standAt iter.pos >>= fun _ => holding [x] (pyIter x) >>= fun it => runOwn (.forLoop target it body orelse env) env).wrap K H gd lv) fs s
  refine seg_at ?_
  rw [Sem.bind_eq_wrap', Sem.wrap_wrap]
  refine seg_wrap (wpAny_mono h (fun x s₁ h₁ => ?_) fun _ _ e => e.elim)
  rw [hs x, pure_bind]
  show Seg M A R Y n s₀ c (.at iter.pos fun _ => (holding [x] (pyIter x) >>= fun it => runOwn (.forLoop target it body orelse env) env).wrap K H gd lv) fs s₁
  refine seg_at ?_
  rw [Sem.bind_eq_wrap', Sem.wrap_wrap]
  refine seg_wrap (wpAny_holding (wpAny_mono h₁ (fun it s₂ h₂ => ?_) fun _ _ e => e.elim))
  exact seg_call h₂
/-- a loop that gives one value a turn: by the number of values to come -/
theorem seg_rec (I : Nat → Shared → Shared → Prop) (turn : ∀ n s₀ s, I n s₀ s → (∀ m s₀' s', m < n → I m s₀' s' → Seg M A R Y m s₀' c (M.den c) fs s') → Seg M A R Y n s₀ c (M.den c) fs s) {n : Nat} {s₀ s : Shared} (h : I n s₀ s) :
    Seg M A R Y n s₀ c (M.den c) fs s := by
  induction n using Nat.strongRecOn generalizing s₀ s with
  | _ n ih => exact turn n s₀ s h fun m s₀' s' hm hI => ih m hm hI
end
section
variable {prog : Program} {w : World} {A : Around} {R : GenEnd} {Y : Protocol} {n : Nat} {s₀ : Shared} {fs : List Frame} {s : Shared} {env : Env}
theorem seg_forLoop {x : Str} {px : Pos} {it : Value} {body : List Stmt}
    (h : wpAny (model prog w) (A.over (.forLoop (.Name x px) it body [] env) fs) (pyNext it) (fun r s₁ => match r with
      | none => Seg (model prog w) A R Y n s₀ (.block [] env) ((model prog w).den (.block [] env)) fs s₁
      | some v => wpAny (model prog w) (A.over (.forLoop (.Name x px) it body [] env) fs) (storeName env x v) (fun _ s₂ =>
          Seg (model prog w) A R Y n s₀ (.forLoop (.Name x px) it body [] env) ((execs body env).wrap (fun f => match f with
            | .next | .cont => .pure (.again (.forLoop (.Name x px) it body [] env))
            | .brk => .pure (.done .next)
            | .ret v => .pure (.done (.ret v))) (fun e => (do noteFrame e env; theTreesLotGoes e : Sem Unit).wrap (fun _ => .raise e) .raise id id) id id) fs s₂) (fun _ _ => False) s₁) (fun _ _ => False) s) :
    Seg (model prog w) A R Y n s₀ (.forLoop (.Name x px) it body [] env) ((model prog w).den (.forLoop (.Name x px) it body [] env)) fs s := by
  show Seg _ A R Y n s₀ _ ((forTurn (.Name x px) it body [] env).onRaise (fun x => do noteFrame x env; theTreesLotGoes x)) fs s
  unfold forTurn
  rw [Sem.onRaise_eq_wrap]
  rw [Sem.bind_eq_wrap', Sem.wrap_wrap]
  refine seg_wrap (wpAny_standAt ?_)
  rw [Sem.bind_eq_wrap', Sem.wrap_wrap]
  refine seg_wrap (wpAny_onRaise (wpAny_mono h (fun r s₁ h₁ => ?_) fun _ _ e => e.elim))
  cases r with
  | none => exact seg_again rfl h₁
  | some v =>
    show Seg _ A R Y n s₀ _ (Sem.wrap _ _ _ _ (letOwnedTupleGo _ it v >>= _)) fs s₁
    rw [show letOwnedTupleGo (.Name x px) it v = pure () from rfl, pure_bind, Sem.bind_eq_wrap', Sem.wrap_wrap]
    refine seg_wrap (wpAny_mono (wpAny_assign_Name h₁) (fun _ s₂ h₂ => ?_) fun _ _ e => e.elim)
    rw [Sem.bind_eq_wrap', Sem.wrap_wrap]
    rw [Sem.wrap_congr (execs body env) _ _ (K' := fun f => match f with
            | .next | .cont => .pure (.again (.forLoop (.Name x px) it body [] env))
            | .brk => .pure (.done .next)
            | .ret v => .pure (.done (.ret v))) (H' := (fun e => (do noteFrame e env; theTreesLotGoes e : Sem Unit).wrap (fun _ => .raise e) .raise id id))
        (fun f => by cases f <;> rfl)
        (fun e => by first | exact Sem.bind_eq_wrap _ _ | (show (do noteFrame e env; theTreesLotGoes e : Sem Unit).bind (fun _ => .raise e) = _; rw [Sem.bind_eq_wrap]))]
    exact h₂
theorem seg_block_nil (h : Seg (model prog w) A R Y n s₀ (.block [] env) (.pure (.done .next)) fs s) :
    Seg (model prog w) A R Y n s₀ (.block [] env) ((model prog w).den (.block [] env)) fs s := h
end
end Mine
end
section
open PySem PySem.W PyProof.Rows PySem.Calls PySem.Spec
set_option Elab.async false
set_option compiler.extract_closed false
namespace Mine
set_option maxRecDepth 100000
section
variable {prog : Program} {w : World} {A₀ A : Around} {s : Shared} {base h₀ : Heap} {outer : List Env} {L : Addr} {m mg mb : Str → Option Value} {env : Env} {news : List (Addr × Obj)} {K : Frag} {p : Program} {loose : List Str} {mean : ExcName → Option Value}
  {R : Result → Shared → Prop} {name qual : Str} {params : Arguments} {body : List Stmt} {scope : Scope} {cl : List (Str × Addr)} {dV kV doc pm cdv ct : Value} {an : Option Addr} {fo : Obj} {f : Addr} {args : Args} {binds : List (Str × Value)}
/-- entering a generator's function: the frame is made, nothing of the body runs -/
theorem my_enterG (F : Fr h₀ L s.heap m) (T : Top p loose mean mg mb h₀)
    (ho : s.heap.get? f = some fo) (hd : fo.data = .func (fnX name qual params body scope cl dV kV doc pm an cdv ct)) (hcd : s.heap.CodeRec cdv qual) (hroom : A.depth < recursionLimit)
    (hbind : BindsTo s (fnX name qual params body scope cl dV kV doc pm an cdv ct) args binds) (hloc : ∀ y ∈ binds, scope.names.lookup y.1 = some .local)
    (h : ∀ (h₁ : Heap) (a b c : Tok), (∀ b o, s.heap.get? b = some o → h₁.get? b = some o) → h₁.Ns s.heap.objs.size (fun y => binds.reverse.lookup y) → s.heap.objs.size < h₁.objs.size →
      R (.ok (.ret (.ref h₁.objs.size))) { s with heap := h₁.push { cls := .type "generator", data := .fields #[.int s.gens.size 0, .str name b, .str qual c] }, toks := s.toks + binds.length + 1 + 1, gens := s.gens.push (.fresh (.func body (envX qual scope s.heap.objs.size f cdv cl))) })
    (hcell : ∀ x ∈ scope.names, x.2 ≠ .cell) (hco : scope.isCoroutine = false := by rfl) (hgen : scope.isGenerator = true := by rfl) (hk : scope.kind = .function := by rfl) : codeAny (model prog w) A (.call (.ref f) args) R s := by
  refine codeAny_call_generator hroom ho hd hco hgen rfl hcd (hbind _ _ _ _ ?_)
  refine wpAny_newFunctionEnv hcell hloc (fun h₁ hns hsb => ⟨(T.nolimit.keeps F.keep).fresh _ hsb, ?_⟩) hk
  refine h h₁ 0 _ _ (fun b o e => hsb.extBut b o (Nat.ne_of_lt (Heap.lt_size e)) (Heap.get?_push_of_some _ e)) hns hns.lt
end
section
variable {M : Model} {A : Around} {E : Value → Shared → Prop} {s : Shared} {h₀ : Heap} {L : Addr} {m : Str → Option Value} {news : List (Addr × Obj)} {env : Env}
theorem over1 {A : Around} {c : Code} {k : Result → Sem Fin} {g : Bool} {lv : List Value} {c1 : Code} {p : Pos} {ks : List Value} (h : A.handled = none) : (A.over c [.ret k none g lv c1 p ks]).handled = none := by
  show (marksOver [.ret k none g lv c1 p ks] (A.handled, A.handled)).1 = none
  rw [h]; rfl
theorem over2 {A : Around} {c : Code} {k k2 : Result → Sem Fin} {g g2 : Bool} {lv lv2 : List Value} {c1 c2 : Code} {p p2 : Pos} {ks ks2 : List Value} (h : A.handled = none) : (A.over c [.ret k none g lv c1 p ks, .ret k2 none g2 lv2 c2 p2 ks2]).handled = none := by
  show (marksOver [.ret k none g lv c1 p ks, .ret k2 none g2 lv2 c2 p2 ks2] (A.handled, A.handled)).1 = none
  rw [h]; rfl
theorem storeG {x : Str} {v : Value} {Q : Unit → Shared → Prop} (F : Fr h₀ L s.heap m) (N : News h₀ L s.heap news) (hL : env.locals = L) (hk : env.kindOf x = some .local)
    (h : ∀ h', Fr h₀ L h' (fun y => if y = x then some v else m y) → News h₀ L h' news → Heap.SameBut L s.heap h' → Q () { s with heap := h', toks := s.toks + 1 })
    (hp : (env.scope.kind == .class || (env.scope.kind == .module && env.locals != env.globals)) = false := by rfl) : wpAny M A (storeName env x v) Q E s := by
  subst hL
  refine wpAny_storeName_local hk F.ns (fun h' hn hs => ?_) hp
  have hL₀ : h₀.get? env.locals = none := Heap.get?_none_of_le F.above
  exact h h' ⟨hn, fun b o e => hs.extBut b o (fun q => by rw [q, hL₀] at e; cases e) (F.keep b o e), F.above⟩ (fun p hp => ⟨(hs.2 p.1 (N p hp).2.1).trans (N p hp).1, (N p hp).2⟩) hs
end
end Mine
end
section
open PySem PySem.W PyProof.Rows PySem.Calls
set_option Elab.async false
set_option compiler.extract_closed false
namespace Mine
/-- a statement is begun with a fresh count of tokens -/
theorem execs_gen {M : Model} {A : Around} {E : Value → Shared → Prop} {st : Stmt} {rest : List Stmt} {env : Env} {Q : Flow → Shared → Prop} {a b c} {X : Nat} {o}
    (h : ∀ tk : Nat, wpAny M A (exec st env) (fun f s' => match f with | .next => wpAny M A (execs rest env) Q E s' | f => Q f s') E (Shared.mk a b c tk o)) :
    wpAny M A (execs (st :: rest) env) Q E (Shared.mk a b c X o) := wpAny_execs_cons (h X)
/-- an int that stands written: its token and the count behind it -/
theorem const_gen {M : Model} {A : Around} {E : Value → Shared → Prop} {i : Int} {k : Nat} {pos : Pos} {env : Env} {Q : Value → Shared → Prop} {a b c} {X : Nat} {o}
    (h : ∀ t : Tok, ∀ tk : Nat, Q (.int i t) (Shared.mk a b c tk o)) : wpAny M A (eval (.Constant (.int i) k pos) env) Q E (Shared.mk a b c X o) := wpAny_Constant_int (h _ _)
end Mine
end
section
open PySem PySem.W PyProof.Rows PySem.Calls
set_option Elab.async false
set_option compiler.extract_closed false
namespace Mine
set_option maxRecDepth 100000
set_option maxHeartbeats 8000000
noncomputable def IsIt (o : Obj) : Prop := o.cls = .type "list_iterator" ∧ ∃ (l : Addr) (i : Int), o.data = .fields #[.ref l, .int i 0]
/-- what the generator gives: by the number of values to come -/
noncomputable def GenV (V : Nat → Int) (Yl En : Nat → Prop) : Nat → Option Int → List Int → Prop
  | 0, _, _ => False
  | n + 1, _, [] => En (n + 1)
  | n + 1, last, x :: r => if x = 127 then En (n + 1) else if x = 0 then ∃ z, last = some z ∧ ∀ k, k ≤ n → V k = z ∧ Yl k else (V n = x ∧ Yl n) ∧ (0 < n → GenV V Yl En n (some x) r)
noncomputable def GY (h₀ : Heap) (gf l : Addr) (lobj : Obj) (V : Nat → Int) (Yl : Nat → Prop) : Protocol := fun n s₀ v s₁ kap =>
  (∃ t, v = .int (V n) t) ∧ Yl n ∧ (∃ h' tk, s₁ = { s₀ with heap := h', toks := tk }) ∧ (∀ b o, b ≠ gf → ¬ IsIt o → s₀.heap.get? b = some o → s₁.heap.get? b = some o) ∧ (∀ b o, h₀.get? b = some o → s₁.heap.get? b = some o) ∧
  ∃ o it oi, s₁.heap.get? gf = some o ∧ s₁.heap.get? it = some oi ∧ IsIt oi ∧ h₀.get? it = none ∧
    (0 < n → ∀ s'' : Shared, (∀ b o, h₀.get? b = some o → s''.heap.get? b = some o) → s''.heap.get? gf = some o → s''.heap.get? it = some oi → s''.heap.get? l = some lobj → kap (.send .none) s'')
noncomputable def GP (h₀ : Heap) (gf : Addr) (En : Nat → Prop) : Nat → Shared → Shared → Prop := fun n s₀ s₁ => En n ∧
  (∃ h' tk, s₁ = { s₀ with heap := h', toks := tk }) ∧ (∀ b o, b ≠ gf → ¬ IsIt o → s₀.heap.get? b = some o → s₁.heap.get? b = some o) ∧ (∀ b o, h₀.get? b = some o → s₁.heap.get? b = some o)
noncomputable def GW (h₀ : Heap) (gf l : Addr) (lobj : Obj) (V : Nat → Int) (Yl : Nat → Prop) (z : Int) (m : Str → Option Value) (it : Addr) (oi : Obj) (n : Nat) (s₀ s : Shared) : Prop :=
  ∃ h' tk, s = { s₀ with heap := h', toks := tk } ∧ (∀ b o, b ≠ gf → ¬ IsIt o → s₀.heap.get? b = some o → h'.get? b = some o) ∧ Fr h₀ gf h' m ∧ News h₀ gf h' [(l, lobj)] ∧ h'.get? it = some oi ∧ 0 < n ∧ ∀ k, k < n → V k = z ∧ Yl k
noncomputable abbrev lastV : Option (Int × Tok) → Value
  | none => .none
  | some (z, t) => .int z t
noncomputable abbrev mG (iv : Option Value) (last : Option (Int × Tok)) (l : Addr) : Str → Option Value := fun y => if y = Str.ofString "interval" then iv else if y = Str.ofString "last_interval" then some (lastV last) else if y = Str.ofString "grouping" then some (.ref l) else none
noncomputable def GS (h₀ : Heap) (gf l : Addr) (lobj : Obj) (V : Nat → Int) (Yl En : Nat → Prop) (ys : List Int) (it : Addr) (n : Nat) (s₀ s : Shared) : Prop :=
  ∃ i h' tk iv last, s = { s₀ with heap := h', toks := tk } ∧ (∀ b o, b ≠ gf → ¬ IsIt o → s₀.heap.get? b = some o → h'.get? b = some o) ∧ Fr h₀ gf h' (mG iv last l) ∧
    News h₀ gf h' [(l, lobj)] ∧ h'.IsListIter it l i ∧ h₀.get? it = none ∧ it ≠ gf ∧ it ≠ l ∧ GenV V Yl En n (last.map (·.1)) (ys.drop i)
namespace HG2
theorem k_storeName {P : Prop} (h : Halt P) : P := h
end HG2
open HG2
theorem c_gen (w : World) (p : Program) (loose : List Str) (mean : ExcName → Option Value) (mg mb : Str → Option Value) (l : Addr) (lv : List Value) (ys : List Int) (nn : Nat) (hi : IntsAre lv ys) (V : Nat → Int) (Yl En : Nat → Prop) (hV : GenV V Yl En 8 none ys) (A' : Around) (hA' : A'.handled = none) :
  ∀ (dp un : Nat) (gd : Option (List Code)) (env : Env) (outer : List Env) (A₀ : Around) (base h₀ : Heap) (L : Addr) (m : Str → Option Value) (s : Shared) (R : Result → Shared → Prop),
    Below A₀ base outer h₀ → Fr h₀ L s.heap m → (hd.heap_39 w.params).In h₀ → 
    s.heap.get? l = some (listOf lv.toArray nn) → h₀.get? l = none → Top p loose mean mg mb h₀ → env.frame = some L → env.scope.kind = .function → 
    dp + 9 < recursionLimit → un + 100 < cLine →
    (∀ (h₁ : Heap) (a b c : Tok) (gs : GenState) (o : Obj), (∀ b o, s.heap.get? b = some o → h₁.get? b = some o) → h₁.get? s.heap.objs.size = some o → s.heap.objs.size < h₁.objs.size → gs.bare = true →
      (∀ s₁ : Shared, (∀ b o, h₀.get? b = some o → s₁.heap.get? b = some o) → s₁.heap.get? s.heap.objs.size = some o → s₁.heap.get? l = some (listOf lv.toArray nn) →
        GenState.Goes (model Mine.rwv.row.prog w) A' (fun n s₀ r s₁ => r = .ok (.ret .none) ∧ GP h₀ s.heap.objs.size En n s₀ s₁) (GY h₀ s.heap.objs.size l (listOf lv.toArray nn) V Yl) 8 gs (.send .none) s₁) →
      R (.ok (.ret (.ref h₁.objs.size))) { s with heap := h₁.push { cls := .type "generator", data := .fields #[.int s.gens.size 0, .str (Str.ofString "_grouping_intervals") b, .str (Str.ofString "_grouping_intervals") c] }, toks := s.toks + 1 + 1 + 1, gens := s.gens.push gs }) →
      codeAny (model Mine.rwv.row.prog w) (tA dp un gd env outer) (.call (.ref 21) ⟨[.ref l], []⟩) R s := by
  k_fill
  intro dp un gd env outer A₀ base h₀ L m s R B F X₀ hl hl0 T hf hke hdp hun hret
  refine' my_enterG ?kF ?k4 ?k6 ?kd ?k7 ?k8 ?k9 ?kB ?_ ?c2 ?c3 ?c4 ?c5
  case kF => assumption
  case k4 => k_asm
  case k6 => first | exact Frag.In.keeps (by k_asm) (Fr.keep (by k_asm)) _ _ (by k_is)
  case kd => rfl
  case k7 => exact codeRec_of (Frag.In.keeps (by k_asm) (Fr.keep (by k_asm))) (by k_is)
  case k8 => ktr_room
  case k9 => exact BindsTo.of_eq rfl
  case c2 => decide
  case kB => exact locs rfl
  case c3 => exact rfl
  case c4 => exact rfl
  case c5 => exact rfl
  intro h₁ a b c hk hns hlt
  obtain ⟨o, es, ep, ho, hrest⟩ := hns
  refine hret h₁ a b c _ o hk ho hlt rfl (fun s₁ hk0 hgf hll => ⟨rfl, ?_⟩)
  have F1 : Fr h₀ s.heap.objs.size s₁.heap (fun y => if y = Str.ofString "grouping" then some (.ref l) else none) := ⟨⟨o, es, ep, hgf, (by
    refine ⟨hrest.1, hrest.2.1, fun name => ?_⟩
    rw [hrest.2.2]
    by_cases q : name = Str.ofString "grouping"
    · subst q; rfl
    · simp only [if_neg q]
      exact lookup1_none q)⟩, hk0, Nat.le_of_lt (Nat.lt_of_le_of_lt F.above F.ns.lt)⟩
  have hlne : l ≠ s.heap.objs.size := Nat.ne_of_lt (Heap.lt_size hl)
  have N1 : News h₀ s.heap.objs.size s₁.heap [(l, listOf lv.toArray nn)] := fun p hp => by
    rw [List.mem_singleton.mp hp]; exact ⟨hll, hlne, hl0⟩
  refine seg_func ?_
  refine seg_execs_cons (seg_stmt ?_)
  k_steps
  unfold Halt
  refine storeG (by k_asm) (by k_asm) rfl rfl ?_
  intro h' F' N' SB'
  k_steps
  rename Fr _ _ _ _ => F2
  rename News _ _ _ _ => N2
  rename Heap.SameBut _ _ _ => SB2
  refine seg_execs_cons (seg_For ?_)
  k_steps
  refine wpAny_pyIter_list (news_list N2 (by k_mem)) ?_
  intro p
  refine seg_rec (GS h₀ s.heap.objs.size l (listOf lv.toArray nn) V Yl En ys h'.objs.size) ?_ ?_
  · intro n s₀ s₂ hI ih
    obtain ⟨i, h3, tk3, iv, last, rfl, hkp, F3, N3, hit, hit0, hitg, hitl, hG⟩ := hI
    clear N1 F2 N2
    cases n with
    | zero => cases hG
    | succ n =>
    refine seg_forLoop ?_
    cases hx : (ys.drop i) with
    | nil =>
      refine wpAny_pyNext_list_end (over1 hA') hit (news_list N3 (by k_mem)) ?_ (fun h4 hs4 => ?_)
      · have h5 : ys.length ≤ i := List.drop_eq_nil_iff.mp hx
        have h6 := hi.length
        simp only [List.getElem?_toArray]
        exact List.getElem?_eq_none (by omega)
      refine seg_leaf (.ok .next) ?_
      show Seg _ _ _ _ _ _ _ (leafOf (.ok (.ret .none))) _ _
      refine seg_end (.ok (.ret .none)) ⟨rfl, (by rw [hx] at hG; exact hG), ⟨h4, tk3, rfl⟩, ?_, ?_⟩
      · intro b o hb ho e
        refine hs4 b o ?_ (hkp b o hb ho e)
        rintro rfl
        obtain ⟨oi, e1, e2, e3⟩ := hit
        have e4 := hkp _ o hb ho e
        rw [e1] at e4; cases e4
        exact ho ⟨e2, _, _, e3⟩
      · intro b o e
        refine hs4 b o ?_ (F3.keep b o e)
        rintro rfl
        rw [hit0] at e; cases e
    | cons x r =>
      obtain ⟨t, hv⟩ : ∃ t, lv.toArray[i]? = some (.int x t) := by
        have h5 : ys[i]? = some x := by
          have := congrArg (fun z => z[0]?) hx
          simpa using this
        obtain ⟨t, h6⟩ := hi.get i x h5
        exact ⟨t, by simpa using h6⟩
      refine wpAny_pyNext_list_item hit (news_list N3 (by k_mem)) hv (fun h4 hit4 hs4 => ?_)
      have F4 : Fr h₀ s.heap.objs.size h4 (mG iv last l) := F3.change hs4 hitg hit0
      have N4 : News h₀ s.heap.objs.size h4 [(l, listOf lv.toArray nn)] := fun p hp => by
        rw [List.mem_singleton.mp hp]; exact ⟨(hs4.2 _ (Ne.symm hitl)).trans (N3 _ (List.mem_singleton.mpr rfl)).1, hlne, hl0⟩
      refine storeG F4 N4 rfl rfl (fun h5 F5 N5 hs5 => ?_)
      clear F3 N3 F4 N4
      have kp5 : ∀ b o, b ≠ s.heap.objs.size → ¬ IsIt o → s₀.heap.get? b = some o → h5.get? b = some o := by
        intro b o hb ho e
        have e3 := hkp b o hb ho e
        refine (hs5.2 b hb).trans ((hs4.2 b ?_).trans e3)
        rintro rfl
        obtain ⟨oi, e1, e2, e4⟩ := hit
        rw [e1] at e3; cases e3
        exact ho ⟨e2, _, _, e4⟩
      obtain ⟨oi, ei1, ei2, ei3⟩ := hit4
      have ei5 : h5.get? h'.objs.size = some oi := (hs5.2 _ hitg).trans ei1
      refine seg_execs_cons (seg_If ?_)
      rw [hx] at hG
      k_steps
      · rename x = 127 => hx1
        refine seg_execs_cons (seg_stmt ?_)
        k_steps
        refine seg_leaf (.ok (.ret .none)) ?_
        show Seg _ _ _ _ _ _ _ (leafOf (.ok (.ret .none))) _ _
        refine seg_end (.ok (.ret .none)) ⟨rfl, (by have := hG; simpa only [GenV, if_pos hx1] using this), ⟨_, _, rfl⟩, ?_, ?_⟩
        · exact kp5
        · exact F5.keep
      · rename ¬ x = 127 => hx1
        refine seg_execs_nil ?_
        refine seg_execs_cons (seg_If ?_)
        k_steps
        · rename x = 0 => hx2
          have hG' : ∃ z, last.map (·.1) = some z ∧ ∀ k, k ≤ n → V k = z ∧ Yl k := by
            have := hG
            simpa only [GenV, if_neg hx1, if_pos hx2] using this
          obtain ⟨z, hz, hV2⟩ := hG'
          obtain ⟨t', rfl⟩ : ∃ t', last = some (z, t') := by
            cases last with
            | none => cases hz
            | some q => exact ⟨q.2, by cases hz; rfl⟩
          refine seg_execs_cons (seg_If ?_)
          k_steps
          refine seg_execs_nil ?_
          refine seg_execs_cons (seg_While ?_)
          intro p2
          refine seg_rec (GW h₀ s.heap.objs.size l (listOf lv.toArray nn) V Yl z _ h'.objs.size oi) ?_ ⟨h5, _, rfl, kp5, F5, N5, ei5, Nat.succ_pos n, fun k hk => hV2 k (Nat.le_of_lt_succ hk)⟩
          intro n2 s₀2 s7 hI2 ih2
          obtain ⟨h7, tk7, rfl, kp7, F7, N7, ei7, hn7, hV7⟩ := hI2
          clear F5 N5
          obtain ⟨m2, rfl⟩ : ∃ m2, n2 = m2 + 1 := ⟨n2 - 1, by omega⟩
          refine seg_whileLoop ?_
          k_steps
          refine seg_execs_cons (seg_Expr_Yield rfl rfl rfl ?_)
          k_steps
          rename_i kap hkap
          obtain ⟨o5, es5, ep5, ho5, hr5⟩ := id F7.ns
          refine ⟨⟨_, by rw [(hV7 m2 (Nat.lt_succ_self _)).1]⟩, (hV7 m2 (Nat.lt_succ_self _)).2, ⟨_, _, rfl⟩, kp7, F7.keep, o5, _, oi, ho5, ei7, ⟨ei2, _, _, ei3⟩, hit0, fun hn s6 hk6 hg6 hi6 hl6 => hkap .none s6 ?_⟩
          refine seg_execs_nil ?_
          refine seg_again rfl ?_
          refine ih2 m2 s6 s6 (Nat.lt_succ_self _) ⟨s6.heap, s6.toks, rfl, fun b o _ _ e => e, ⟨⟨o5, es5, ep5, hg6, hr5⟩, hk6, F7.above⟩, fun p hp => ?_, hi6, hn, fun k hk => hV7 k (Nat.lt_succ_of_lt hk)⟩
          rw [List.mem_singleton.mp hp]; exact ⟨hl6, hlne, hl0⟩
        · rename ¬ x = 0 => hx2
          have hG' : (V n = x ∧ Yl n) ∧ (0 < n → GenV V Yl En n (some x) r) := by
            have := hG
            simpa only [GenV, if_neg hx1, if_neg hx2] using this
          refine seg_execs_nil ?_
          refine seg_execs_cons (seg_Expr_Yield rfl rfl rfl ?_)
          k_steps
          rename_i kap hkap
          obtain ⟨o5, es5, ep5, ho5, hr5⟩ := id F5.ns
          refine ⟨⟨t, by rw [hG'.1.1]⟩, hG'.1.2, ⟨_, _, rfl⟩, kp5, F5.keep, o5, _, oi, ho5, ei5, ⟨ei2, _, _, ei3⟩, hit0, fun hn s6 hk6 hg6 hi6 hl6 => hkap .none s6 ?_⟩
          have F6 : Fr h₀ s.heap.objs.size s6.heap (fun y => if y = Str.ofString "interval" then some (.int x t) else mG iv last l y) := ⟨⟨o5, es5, ep5, hg6, hr5⟩, hk6, F5.above⟩
          have N6 : News h₀ s.heap.objs.size s6.heap [(l, listOf lv.toArray nn)] := fun p hp => by
            rw [List.mem_singleton.mp hp]; exact ⟨hl6, hlne, hl0⟩
          clear F5 N5
          refine seg_execs_cons (seg_stmt ?_)
          k_steps
          unfold Halt
          refine storeG F6 N6 rfl rfl (fun h7 F7 N7 hs7 => ?_)
          k_steps
          refine seg_execs_nil ?_
          refine seg_again rfl ?_
          obtain ⟨m, rfl⟩ : ∃ m, n = m + 1 := ⟨n - 1, by omega⟩
          refine ih (m + 1) s6 _ (Nat.lt_succ_self _) ⟨i + 1, h7, _, some (.int x t), some (x, t), rfl, ?_, ?_, N7, ?_, hit0, hitg, hitl, ?_⟩
          · intro b o hb _ e; exact (hs7.2 b hb).trans e
          · refine fr_eq F7 ?_
            funext y
            by_cases q1 : y = Str.ofString "interval"
            · subst q1; rfl
            · by_cases q2 : y = Str.ofString "last_interval"
              · subst q2; rfl
              · simp only [mG, if_neg q1, if_neg q2]
          · exact ⟨oi, (hs7.2 _ hitg).trans hi6, ei2, ei3⟩
          · have e7 : ys.drop (i + 1) = r := by
              rw [← List.drop_drop, hx]; rfl
            rw [e7]
            exact hG'.2 hn
  · have hsz : s.heap.objs.size < (Heap.objs _).size := F2.ns.lt
    refine ⟨0, _, _, none, none, rfl, ?_, fr_eq (F2.keeps fun _ _ e => Heap.get?_push_of_some _ e) ?_, N2.grown (fun _ _ e => Heap.get?_push_of_some _ e), ⟨_, Heap.get?_push_size _ rfl, rfl, rfl⟩, next_is_new F2, Ne.symm (Nat.ne_of_lt F2.ns.lt), ?_, hV⟩
    · intro b o hb ho e
      exact Heap.get?_push_of_some _ ((SB2.2 b hb).trans e)
    · funext y
      by_cases q2 : y = Str.ofString "last_interval"
      · subst q2; rfl
      · by_cases q1 : y = Str.ofString "interval"
        · subst q1; rfl
        · simp only [mG, if_neg q1, if_neg q2]
    · have := Heap.lt_size (N2 _ (List.mem_singleton.mpr rfl)).1
      exact Ne.symm (Nat.ne_of_lt this)
end Mine
end
end
end
section
open PySem PySem.W PyProof.Rows
set_option Elab.async false
set_option compiler.extract_closed false
namespace Mine
set_option maxRecDepth 100000
/-- the law's end: True comes back, the ghost's objects stand, the tables have grown, generators may lie suspended -/
theorem my_post {M : Model} {A : Around} {cd : Code} {s s₁ : Shared} {cw : ClaimW} {cl : Str → Option Addr} {mean : ExcName → Option Value} {args : List WData} {tabs : List (Addr × Addr)} {d : WData} (hT : TabsAt tabs s₁.heap)
    (hr : ∀ x, cw.raises args x = false) (hd : ∀ h : Heap, ReadsW cw.records cl h (.bool true) d []) (hp : cw.post args d args = true)
    (h : codeAny M A cd (fun r s' => r = .ok (.ret (.bool true)) ∧ (∀ b o, (ghostOf s₁.heap tabs).get? b = some o → s'.heap.get? b = some o) ∧ s'.os = s₁.os ∧ AllBare s'.gens ∧ GrownAll tabs s'.heap) s) : codeAny M A cd (GoodWG cw cl mean args s₁) s := by
  refine codeAny_mono h fun r s' hx => ?_
  obtain ⟨rfl, hk, hos, hg, hgr⟩ := hx
  have look : ∀ b o, s₁.heap.get? b = some o → s'.heap.get? b = some o ∨ (∃ q ∈ tabs, b = q.2) := fun b o e => by
    by_cases hb : b ∈ tabs.map (·.2)
    · obtain ⟨q, hq, e2⟩ := List.mem_map.mp hb
      exact .inr ⟨q, hq, e2.symm⟩
    · exact .inl (hk b o (ghost_ne e hb))
  refine ⟨.inl ⟨_, d, [], rfl, hr, hd _, hp, fun _ => ⟨List.nodup_nil, fun a ha => nomatch ha⟩⟩, ⟨fun b o e => ?_, fun b o e => ?_⟩, hos, hg⟩
  · rcases look b o e with h1 | ⟨q, hq, rfl⟩
    · exact .inl h1
    · have h2 := (hT q hq).2
      obtain ⟨ps, hP⟩ := hgr.get q hq
      rw [e] at h2
      cases h2
      exact .inr (.inl ⟨((hT q hq).1.tab (hT q hq).2).isCodeTable, rfl, #[], ps, rfl, by rw [Array.empty_append]; exact hP⟩)
  · rcases look b o e with h1 | ⟨q, hq, rfl⟩
    · exact ⟨o, h1⟩
    · obtain ⟨ps, hP⟩ := hgr.get q hq
      exact ⟨_, hP⟩
end Mine
end
section
open PySem PySem.W PyProof.Rows PySem.Calls PySem.Spec
set_option Elab.async false
set_option compiler.extract_closed false
namespace Mine
set_option maxRecDepth 100000
theorem pick_ints {vs : List Value} {ns : List Int} (hi : IntsAre vs ns) (ix : List Nat) : ∃ ms, IntsAre (ix.filterMap fun i => vs.toArray[i]?) ms := by
  induction ix with
  | nil => exact ⟨[], .nil⟩
  | cons i r ih =>
    obtain ⟨ms, hm⟩ := ih
    cases e : vs.toArray[i]? with
    | none => exact ⟨ms, by rw [List.filterMap_cons, e]; exact hm⟩
    | some v =>
      obtain ⟨k, t, rfl, _⟩ := IntsAre.at hi i v (by simpa using e)
      exact ⟨k :: ms, by rw [List.filterMap_cons, e]; exact .cons k t hm⟩
theorem slice_ints {vs : List Value} {ns : List Int} (hi : IntsAre vs ns) (lo up st : Option Int) : ∃ ms, IntsAre (slicePick vs.toArray lo up st).toList ms := by
  unfold slicePick
  exact pick_ints hi _
section
variable {prog : Program} {w : World} {A : Around} {E : Value → Shared → Prop} {s : Shared} {h₀ : Heap} {L D : Addr} {m : Str → Option Value} {news : List (Addr × Obj)} {Q : Value → Shared → Prop}
theorem sum_K {vs : List Value} {ns : List Int} {c : Nat} (hh : A.handled = none) (F : Fr h₀ L s.heap m) (N : News h₀ L s.heap news) (hm : (D, listOf vs.toArray c) ∈ news) (hi : IntsAre vs ns)
    (h : ∀ h' tk t, Fr h₀ L h' m → News h₀ L h' news → Q (.int ns.sum t) { s with heap := h', toks := tk }) : wpAny (model prog w) A (call (.builtin "sum") [.ref D]) Q E s := by
  have hl := news_list N hm
  obtain ⟨xs, hx⟩ := hi.allInts.items
  rw [hx] at hl
  refine sum_intListG hh hl fun h' tk t' hk => ?_
  have e := hi.numsOf
  have e2 : numsOf (intItems xs).toList = ns := by rw [← hx]; exact e
  rw [nums_intItems] at e2
  have e3 : preSum (numAt xs) xs.size = ns.sum := by
    rw [preSum_eq, List.take_of_length_le (by simp), e2]
  rw [e3]
  exact h h' tk t' (F.keeps hk) (N.grown hk)
theorem sum_pick {vs : List Value} {ns : List Int} {c : Nat} {lo up st : Option Int} (hh : A.handled = none) (F : Fr h₀ L s.heap m) (N : News h₀ L s.heap news) (hm : (D, listOf (slicePick vs.toArray lo up st) c) ∈ news) (hi : IntsAre vs ns)
    (h : ∀ k h' tk t, Fr h₀ L h' m → News h₀ L h' news → Q (.int k t) { s with heap := h', toks := tk }) : wpAny (model prog w) A (call (.builtin "sum") [.ref D]) Q E s := by
  obtain ⟨ms, hms⟩ := slice_ints hi lo up st
  exact sum_K (vs := (slicePick vs.toArray lo up st).toList) hh F N (by simpa using hm) hms (h _)
theorem sum_pickD {vs : List Value} {ns : List Int} {c : Nat} {lo up st : Option Int} (hh : A.handled = none) (F : Fr h₀ L s.heap m) (N : News h₀ L s.heap ((D, listOf (slicePick vs.toArray lo up st) c) :: news)) (hi : IntsAre vs ns)
    (h : ∀ k h' tk t, Fr h₀ L h' m → News h₀ L h' news → Q (.int k t) { s with heap := h', toks := tk }) : wpAny (model prog w) A (call (.builtin "sum") [.ref D]) Q E s :=
  sum_pick hh F N (.head _) hi fun k h' tk t F' N' => h k h' tk t F' fun p hp => N' p (.tail _ hp)
end
end Mine
end
section
open PySem PySem.W PyProof.Rows PySem.Calls
set_option Elab.async false
set_option compiler.extract_closed false
namespace Mine
set_option maxRecDepth 100000
section
variable {w : World} {p : Program} {loose : List Str} {mean : ExcName → Option Value} {mg mb : Str → Option Value} {dp un : Nat} {gd : Option (List Code)} {env : Env} {outer : List Env} {A A₀ : Around} {base h₀ : Heap} {L : Addr} {m : Str → Option Value} {s : Shared} {Q : Value → Shared → Prop} {E : Value → Shared → Prop} {a0 : Addr} {o0 : Obj} {news : List (Addr × Obj)}
theorem fresh_news {h h' : Heap} {D : Addr} {o : Obj} (F : Fr h₀ L h m) (N : News h₀ L h news) (hk : ∀ b o, h.get? b = some o → h'.get? b = some o) (hD : h'.get? D = some o) (h0 : h.get? D = none) : News h₀ L h' ((D, o) :: news) := by
  intro q hq
  rcases List.mem_cons.mp hq with rfl | hq
  · refine ⟨hD, ?_, ?_⟩
    · rintro rfl
      obtain ⟨oL, _, _, hL, _⟩ := F.ns
      rw [h0] at hL; cases hL
    · cases e : h₀.get? D with
      | none => rfl
      | some o' => have := F.keep _ _ e; rw [h0] at this; cases this
  · exact ⟨hk _ _ (N q hq).1, (N q hq).2⟩
theorem call_names (hA : A = tA dp un gd env outer) (B : Below A₀ base outer h₀) (F : Fr h₀ L s.heap m) (X₀ : (hd.heap_39 w.params).In h₀) (N : News h₀ L s.heap ((a0, o0) :: news)) (T : Top p loose mean mg mb h₀) (hf : env.frame = some L) (hke : env.scope.kind = .function)
    (hdp : dp + 9 < recursionLimit) (hun : un + 100 < cLine)
    (h : ∀ D vs h' tk', Fr h₀ L h' m → News h₀ L h' ((D, listOf vs.toArray 0) :: (a0, o0) :: news) → @LT.lt Nat _ a0 D → StrsAre vs namesX → Q (.ref D) { s with heap := h', toks := tk' }) :
    wpAny (model Mine.rwv.row.prog w) A (call (.ref 80) []) Q E s := by
  subst hA
  refine wpAny_call ?_
  refine c_names w p loose mean mg mb a0 o0 dp un gd env outer A₀ base h₀ L m s _ B F X₀ (sub_news N fun q hq => by rw [List.mem_singleton.mp hq]; exact .head _) T hf hke hdp hun ?_
  intro h' tk' D vs hk hD h0 hlt hs
  exact h D vs h' tk' (F.keeps hk) (fresh_news F N hk hD h0) hlt hs
theorem call_row {code prime many : Int} {tc tp tm : Tok} (hA : A = tA dp un gd env outer) (B : Below A₀ base outer h₀) (F : Fr h₀ L s.heap m) (X₀ : (hd.heap_39 w.params).In h₀) (N : News h₀ L s.heap ((a0, o0) :: news)) (T : Top p loose mean mg mb h₀) (hf : env.frame = some L) (hke : env.scope.kind = .function)
    (hdp : dp + 9 < recursionLimit) (hun : un + 100 < cLine) (hp : 2 ≤ prime) (hp2 : prime < 100) (hm1 : 2 ≤ many) (hm : many < 200)
    (h : ∀ D vs c h' tk', Fr h₀ L h' m → News h₀ L h' ((D, listOf vs.toArray c) :: (a0, o0) :: news) → @LT.lt Nat _ a0 D → IntsAre vs (lucs (rowP code prime) (rowQ code prime) many.toNat) → Q (.ref D) { s with heap := h', toks := tk' }) :
    wpAny (model Mine.rwv.row.prog w) A (call (.ref 94) [.int code tc, .int prime tp, .int many tm]) Q E s := by
  subst hA
  refine wpAny_call ?_
  refine c_row w p loose mean mg mb a0 o0 code prime many tc tp tm hp hp2 hm1 hm dp un gd env outer A₀ base h₀ L m s _ B F X₀ (sub_news N fun q hq => by rw [List.mem_singleton.mp hq]; exact .head _) T hf hke hdp hun ?_
  intro h' tk' D vs c hk hD h0 hlt hs
  exact h D vs c h' tk' (F.keeps hk) (fresh_news F N hk hD h0) hlt hs
/-- the figures of a number by the sizes in the list that was made last; that list is left -/
theorem call_figures {num : Int} {tn : Tok} {l : Addr} {lv : List Value} {ns : List Int} {nn : Nat} (hA : A = tA dp un gd env outer) (B : Below A₀ base outer h₀) (F : Fr h₀ L s.heap m) (X₀ : (hd.heap_39 w.params).In h₀) (N : News h₀ L s.heap ((l, listOf lv.toArray nn) :: (a0, o0) :: news)) (T : Top p loose mean mg mb h₀) (hf : env.frame = some L) (hke : env.scope.kind = .function)
    (hdp : dp + 9 < recursionLimit) (hun : un + 100 < cLine) (hi : IntsAre lv ns) (hpos : ∀ x ∈ ns, 0 < x ∧ x < 100) (hlen : ns.length < 100) (hla : l ≠ a0)
    (h : ∀ D vs c h' tk', Fr h₀ L h' m → News h₀ L h' ((D, listOf vs.toArray c) :: (a0, o0) :: news) → @LT.lt Nat _ a0 D → IntsAre vs (figsZ num ns) → Q (.ref D) { s with heap := h', toks := tk' }) :
    wpAny (model Mine.rwv.row.prog w) A (call (.ref 108) [.int num tn, .ref l]) Q E s := by
  subst hA
  refine wpAny_call ?_
  refine c_figures w p loose mean mg mb a0 o0 num tn l lv ns nn hi hpos hlen hla dp un gd env outer A₀ base h₀ L m s _ B F X₀ (sub_news N fun q hq => by rw [List.mem_singleton.mp hq]; exact .tail _ (.head _)) (N _ (.head _)).1 T hf hke hdp hun ?_
  intro h' tk' D vs c hk hD h0 hlt hs
  exact h D vs c h' tk' (F.keeps hk) (fresh_news F (fun q hq => N q (.tail _ hq)) hk hD h0) hlt hs
theorem call_times {n q : Nat} {x y : Int} {tn tq : Tok} (hA : A = tA dp un gd env outer) (B : Below A₀ base outer h₀) (F : Fr h₀ L s.heap m) (X₀ : (hd.heap_39 w.params).In h₀) (N : News h₀ L s.heap news) (T : Top p loose mean mg mb h₀) (hf : env.frame = some L) (hke : env.scope.kind = .function)
    (hdp : dp + 9 < recursionLimit) (hun : un + 100 < cLine) (hx : x = n) (hy : y = q) (hn : 0 < n) (hq : 2 ≤ q) (hq2 : q < 100)
    (h : ∀ t h' tk', Fr h₀ L h' m → News h₀ L h' news → Q (.int (vp q n) t) { s with heap := h', toks := tk' }) :
    wpAny (model Mine.rwv.row.prog w) A (call (.ref 101) [.int x tn, .int y tq]) Q E s := by
  subst hA; subst hx; subst hy
  refine wpAny_call ?_
  refine c_times w p loose mean mg mb n q tn tq hn hq hq2 dp un gd env outer A₀ base h₀ L m s _ B F X₀ (fun q hq => nomatch hq) T hf hke hdp hun ?_
  intro h' tk' t hk
  exact h t h' tk' (F.keeps hk) (N.grown hk)
theorem call_text {fl nl : Addr} {fv nv : List Value} {fs : List Int} {c1 c2 : Nat} {nought look : Int} {tn tl : Tok} (hA : A = tA dp un gd env outer) (B : Below A₀ base outer h₀) (F : Fr h₀ L s.heap m) (X₀ : (hd.heap_39 w.params).In h₀) (N : News h₀ L s.heap news) (T : Top p loose mean mg mb h₀) (hf : env.frame = some L) (hke : env.scope.kind = .function)
    (hdp : dp + 9 < recursionLimit) (hun : un + 100 < cLine) (hfl : (fl, listOf fv.toArray c1) ∈ news) (hnl : (nl, listOf nv.toArray c2) ∈ news) (hi : IntsAre fv fs) (hn : StrsAre nv namesX) (hpos : ∀ x ∈ fs, 0 ≤ x ∧ x < 8) (hlen : fs.length < 100) (hno : 7 ≤ nought ∧ nought < 48)
    (h : ∀ x t h' tk', Fr h₀ L h' m → News h₀ L h' news → x = textZ look nought fs → Q (.str x t) { s with heap := h', toks := tk' }) :
    wpAny (model Mine.rwv.row.prog w) A (call (.ref 113) [.ref fl, .ref nl, .int nought tn, .int look tl]) Q E s := by
  subst hA
  refine wpAny_call ?_
  refine c_text w p loose mean mg mb fl nl fv nv fs c1 c2 nought look tn tl hi hn hpos hlen hno dp un gd env outer A₀ base h₀ L m s _ B F X₀ (fun q hq => nomatch hq) (N _ hfl).1 (N _ hnl).1 T hf hke hdp hun ?_
  intro h' tk' x t hk hx
  exact h x t h' tk' (F.keeps hk) (N.grown hk) hx
end
end Mine
end
section
open PySem PySem.W PyProof.Rows PySem.Calls
set_option Elab.async false
set_option compiler.extract_closed false
namespace Mine
set_option maxRecDepth 100000
section
variable {w : World} {p : Program} {loose : List Str} {mean : ExcName → Option Value} {mg mb : Str → Option Value} {dp un : Nat} {gd : Option (List Code)} {env : Env} {outer : List Env} {A A₀ : Around} {base h₀ : Heap} {L : Addr} {m : Str → Option Value} {s : Shared} {Q : Value → Shared → Prop} {E : Value → Shared → Prop} {a0 : Addr} {o0 : Obj} {news : List (Addr × Obj)}
theorem fresh_list {h h' : Heap} {l : List (Addr × Obj)} (F : Fr h₀ L h m) (hl : Led h' l) (h0 : ∀ p ∈ l, h.get? p.1 = none) : News h₀ L h' l := fun q hq => by
  refine ⟨hl q hq, ?_, ?_⟩
  · intro e
    obtain ⟨oL, _, _, hL, _⟩ := F.ns
    have := h0 q hq
    rw [e, hL] at this; cases this
  · cases e : h₀.get? q.1 with
    | none => rfl
    | some o' => have := F.keep _ _ e; rw [h0 q hq] at this; cases this
noncomputable abbrev tab82 (CO : Addr) : Obj := tabObj (#[] ++ #[rawInt 118, rawInt 18, .ref CO])
theorem call_lexer {x : Str} {tx : Tok} (hA : A = tA dp un gd env outer) (B : Below A₀ base outer h₀) (F : Fr h₀ L s.heap m) (X₀ : (hd.heap_39 w.params).In h₀) (N : News h₀ L s.heap ((82, tabObj #[]) :: (a0, o0) :: news)) (T : Top p loose mean mg mb h₀) (C : CodeHd base 86 82) (hf : env.frame = some L) (hke : env.scope.kind = .function)
    (hdp : dp + 8 < recursionLimit) (hun : un + 90 < cLine) (h82 : @LT.lt Nat _ 82 a0) (hne : ∀ p ∈ news, p.1 ≠ 82) (hx : x.length ≤ sizeLine)
    (h : ∀ (c : Lx) t1 vs n h' tk', c.Ok → Fr h₀ L h' m → News h₀ L h' ((c.PB, listOf #[] 0) :: c.led w.params t1 1 vs n ++ (82, tab82 c.CO) :: (a0, o0) :: news) → @LT.lt Nat _ a0 c.CELL → @LT.lt Nat _ a0 c.CO → Signs vs x.cps.toList.reverse → c.q = Str.ofString "_law_lexer.<locals>.<lambda>" → Q (.ref c.X) { s with heap := h', toks := tk' }) :
    wpAny (model Mine.rwv.row.prog w) A (call (.ref 87) [.str x tx]) Q E s := by
  subst hA
  refine wpAny_call ?_
  refine c_lexer w p loose mean mg mb a0 o0 h82 x tx hx dp un gd env outer A₀ base h₀ L m s _ B F X₀ (sub_news N fun q hq => by
    rcases List.mem_cons.mp hq with rfl | hq
    · exact .head _
    · rw [List.mem_singleton.mp hq]; exact .tail _ (.head _)) T C hf hke hdp hun ?_
  intro c h' tk' t1 vs n ok hk hl hlt hlt2 h0 hs hq
  have N82 := N _ (.head _)
  have F' : Fr h₀ L h' m := fr_after F N hk fun a ha => by obtain rfl := List.mem_singleton.mp ha; exact ⟨_, .head _⟩
  refine h c t1 vs n h' tk' ok F' (fun q hq => ?_) hlt hlt2 hs hq
  rcases List.mem_append.mp hq with hq | hq
  · exact fresh_list F (fun q hq => hl q (.tail _ hq)) h0 q hq
  rcases List.mem_cons.mp hq with rfl | hq
  · exact ⟨hl _ (.head _), N82.2⟩
  · have hq82 : q.1 ≠ 82 := by
      rcases List.mem_cons.mp hq with rfl | hq
      · exact Ne.symm (Nat.ne_of_lt h82)
      · exact hne q hq
    exact ⟨hk _ _ (N q (.tail _ hq)).1 (by simpa using hq82), (N q (.tail _ hq)).2⟩
theorem call_lexer2 {x : Str} {tx qt : Tok} {CO : Nat} {co : Obj} {cvs : Array Value} (hA : A = tA dp un gd env outer) (B : Below A₀ base outer h₀) (F : Fr h₀ L s.heap m) (X₀ : (hd.heap_39 w.params).In h₀) (N : News h₀ L s.heap news) (m1 : (82, tab82 CO) ∈ news) (m2 : (CO, co) ∈ news) (m3 : (a0, o0) ∈ news) (T : Top p loose mean mg mb h₀) (C : CodeHd base 86 82) (hf : env.frame = some L) (hke : env.scope.kind = .function)
    (hdp : dp + 8 < recursionLimit) (hun : un + 90 < cLine) (h82 : @LT.lt Nat _ 82 a0) (hco0 : @LT.lt Nat _ CO a0) (hco : co.data = .fields cvs) (hcq : cvs[1]? = some (.str (Str.ofString "_law_lexer.<locals>.<lambda>") qt)) (hx : x.length ≤ sizeLine)
    (h : ∀ (c : Lx) t1 vs n h' tk', c.Ok → c.CO = CO → Fr h₀ L h' m → News h₀ L h' ([(c.PB, listOf #[] 0), (c.DX, c.dx w.params t1 1), (c.SG, listOf vs.toArray n), (c.X, instObj 59 c.DX), (c.ST, instObj 59 c.DS), (c.DS, strDict w.params c.j1 c.j2 c.j3 c.j4 c.j5 c.u1 c.u3 c.PB1 c.LAM), (c.LAM, lamObj c.q c.CELL c.CO c.pm c.ct), (c.CELL, c.cellO)] ++ news) → Led h' [(c.CO, c.co)] → @LT.lt Nat _ a0 c.CELL → Signs vs x.cps.toList.reverse → Q (.ref c.X) { s with heap := h', toks := tk' }) :
    wpAny (model Mine.rwv.row.prog w) A (call (.ref 87) [.str x tx]) Q E s := by
  subst hA
  refine wpAny_call ?_
  refine c_lexer2 w p loose mean mg mb CO co a0 o0 h82 hco0 cvs qt hco hcq x tx hx dp un gd env outer A₀ base h₀ L m s _ B F X₀ (sub_news N (List.forall_mem_cons.mpr ⟨m1, List.forall_mem_cons.mpr ⟨m2, List.forall_mem_cons.mpr ⟨m3, List.forall_mem_nil _⟩⟩⟩)) T C hf hke hdp hun ?_
  intro c h' tk' t1 vs n ok hk hl hc hlt h0 hs
  refine h c t1 vs n h' tk' ok hc (F.keeps hk) (fun q hq => ?_) (fun q hq => hl q (by rw [List.mem_singleton.mp hq]; simp)) hlt hs
  have ho := ok.hord
  rcases List.mem_append.mp hq with hq | hq
  · refine fresh_list (l := [(c.PB, listOf #[] 0), (c.DX, c.dx w.params t1 1), (c.SG, listOf vs.toArray n), (c.X, instObj 59 c.DX), (c.ST, instObj 59 c.DS), (c.DS, strDict w.params c.j1 c.j2 c.j3 c.j4 c.j5 c.u1 c.u3 c.PB1 c.LAM), (c.LAM, lamObj c.q c.CELL c.CO c.pm c.ct), (c.CELL, c.cellO)]) F (fun q hq => hl q ?_) (fun q hq => h0 q ?_ ?_) q hq
    · revert q; (repeat (first | exact List.forall_mem_nil _ | (refine List.forall_mem_cons.mpr ⟨?km, ?_⟩; (case km => k_mem))))
    · revert q; (repeat (first | exact List.forall_mem_nil _ | (refine List.forall_mem_cons.mpr ⟨?km, ?_⟩; (case km => k_mem))))
    · have hlt' : c.CO < c.CELL := by rw [hc]; exact Nat.lt_trans hco0 hlt
      rw [← hc]
      obtain ⟨s1, s2, s3, s4, _, s6, s7, s8⟩ := ho
      have e1 := Nat.lt_trans hlt' s1
      have e2 := Nat.lt_trans e1 s2
      have e3 := Nat.lt_trans e2 s3
      have e4 := Nat.lt_trans e3 s4
      have e5 := Nat.lt_trans e4 s6
      have e6 := Nat.lt_trans e5 s7
      exact (List.forall_mem_cons.mpr ⟨Nat.ne_of_gt (Nat.lt_trans e6 s8), List.forall_mem_cons.mpr ⟨Nat.ne_of_gt e5, List.forall_mem_cons.mpr ⟨Nat.ne_of_gt e1, List.forall_mem_cons.mpr ⟨Nat.ne_of_gt e6, List.forall_mem_cons.mpr ⟨Nat.ne_of_gt e3, List.forall_mem_cons.mpr ⟨Nat.ne_of_gt e2, List.forall_mem_cons.mpr ⟨Nat.ne_of_gt e4, List.forall_mem_cons.mpr ⟨Nat.ne_of_gt hlt', List.forall_mem_nil _⟩⟩⟩⟩⟩⟩⟩⟩ : ∀ q ∈ _, q.1 ≠ c.CO) q hq
  · exact ⟨hk _ _ (N q hq).1, (N q hq).2⟩
theorem call_tok {c : Lx} {t1 : Tok} {ln : Int} {vs : List Value} {n : Nat} {cs tok rest : List Nat} {n0 : Nat} (hA : A = tA dp un gd env outer) (ok : c.Ok) (B : Below A₀ base outer h₀) (F : Fr h₀ L s.heap m) (X₀ : (hd.heap_39 w.params).In h₀) (N : News h₀ L s.heap ((c.DX, c.dx w.params t1 ln) :: (c.SG, listOf vs.toArray n) :: news)) (T : Top p loose mean mg mb h₀) (C : CodeHd base 86 82) (hf : env.frame = some L) (hke : env.scope.kind = .function)
    (hdp : dp + 9 < recursionLimit) (hun : un + 100 < cLine) (hin : ∀ q ∈ [(c.PB, listOf #[] n0), (c.X, instObj 59 c.DX), (c.ST, instObj 59 c.DS), (c.DS, strDict w.params c.j1 c.j2 c.j3 c.j4 c.j5 c.u1 c.u3 c.PB1 c.LAM), (c.LAM, lamObj c.q c.CELL c.CO c.pm c.ct), (c.CELL, c.cellO), (c.CO, c.co)], q ∈ news)
    (hoff : ∀ q ∈ news, q.1 ≠ c.DX ∧ q.1 ≠ c.SG) (hsg : Signs vs cs.reverse) (hrd : RdA cs tok rest) (hlen : cs.length ≤ 1000000)
    (h : ∀ t1' ln' vs' n' tt h' tk', Fr h₀ L h' m → News h₀ L h' ((c.DX, c.dx w.params t1' ln') :: (c.SG, listOf vs'.toArray n') :: news) → Signs vs' rest.reverse → bumps rest ln' = bumps cs ln → Q (.str ⟨tok.toArray⟩ tt) { s with heap := h', toks := tk' }) :
    wpAny (model Mine.rwv.row.prog w) A (call (.ref 49) [.ref c.X]) Q E s := by
  subst hA
  refine wpAny_call ?_
  refine c_tok w p loose mean mg mb { c with pbn := n0 } ⟨ok.hcell, ok.hco, ok.hcq, ok.hord⟩ t1 ln vs n cs tok rest hsg hrd hlen dp un gd env outer A₀ base h₀ L m s _ B F X₀ (sub_news N fun q hq => ?_) T C hf hke hdp hun ?_
  · revert q
    refine List.forall_mem_cons.mpr ⟨(List.Mem.tail _ (List.Mem.tail _ (hin _ (List.Mem.head _)))), ?_⟩
    refine List.forall_mem_cons.mpr ⟨(List.Mem.head _), ?_⟩
    refine List.forall_mem_cons.mpr ⟨(List.Mem.tail _ (List.Mem.head _)), ?_⟩
    refine List.forall_mem_cons.mpr ⟨(List.Mem.tail _ (List.Mem.tail _ (hin _ (List.Mem.tail _ (List.Mem.head _))))), ?_⟩
    refine List.forall_mem_cons.mpr ⟨(List.Mem.tail _ (List.Mem.tail _ (hin _ (List.Mem.tail _ (List.Mem.tail _ (List.Mem.head _)))))), ?_⟩
    refine List.forall_mem_cons.mpr ⟨(List.Mem.tail _ (List.Mem.tail _ (hin _ (List.Mem.tail _ (List.Mem.tail _ (List.Mem.tail _ (List.Mem.head _))))))), ?_⟩
    refine List.forall_mem_cons.mpr ⟨(List.Mem.tail _ (List.Mem.tail _ (hin _ (List.Mem.tail _ (List.Mem.tail _ (List.Mem.tail _ (List.Mem.tail _ (List.Mem.head _)))))))), ?_⟩
    refine List.forall_mem_cons.mpr ⟨(List.Mem.tail _ (List.Mem.tail _ (hin _ (List.Mem.tail _ (List.Mem.tail _ (List.Mem.tail _ (List.Mem.tail _ (List.Mem.tail _ (List.Mem.head _))))))))), ?_⟩
    refine List.forall_mem_cons.mpr ⟨(List.Mem.tail _ (List.Mem.tail _ (hin _ (List.Mem.tail _ (List.Mem.tail _ (List.Mem.tail _ (List.Mem.tail _ (List.Mem.tail _ (List.Mem.tail _ (List.Mem.head _)))))))))), ?_⟩
    exact List.forall_mem_nil _
  intro h' tk' t1' ln' vs' n' tt hk hl hs hb
  refine h t1' ln' vs' n' tt h' tk' (fr_after F N hk fun a ha => ?_) (news_after N hk hl fun q hq => ?_) hs hb
  · simp only [List.mem_cons, List.not_mem_nil, or_false] at ha
    rcases ha with rfl | rfl
    · exact ⟨_, .head _⟩
    · exact ⟨_, .tail _ (.head _)⟩
  · rcases List.mem_cons.mp hq with rfl | hq
    · exact .inl ⟨.head _, _, .head _⟩
    rcases List.mem_cons.mp hq with rfl | hq
    · exact .inl ⟨.tail _ (.head _), _, .tail _ (.head _)⟩
    · refine .inr ⟨.tail _ (.tail _ hq), ?_⟩
      have := hoff q hq
      simp [this.1, this.2]
theorem call_push {X DX PB : Nat} {k1 k2 k3 k4 t1 t3 : Tok} {ln : Int} {ins y : Value} {us : List Value} {n : Nat} (hA : A = tA dp un gd env outer) (B : Below A₀ base outer h₀) (F : Fr h₀ L s.heap m) (X₀ : (hd.heap_39 w.params).In h₀) (N : News h₀ L s.heap ((PB, listOf us.toArray n) :: news)) (T : Top p loose mean mg mb h₀) (hf : env.frame = some L) (hke : env.scope.kind = .function)
    (hdp : dp + 9 < recursionLimit) (hun : un + 100 < cLine) (m1 : (X, instObj 59 DX) ∈ news) (m2 : (DX, lexDict w.params k1 k2 k3 k4 t1 t3 ln ins PB) ∈ news) (hz : us.length ≤ sizeLine) (ho : DX < X ∧ X < PB) (hoff : ∀ q ∈ news, q.1 ≠ PB)
    (h : ∀ h' tk', Fr h₀ L h' m → News h₀ L h' ((PB, listOf (us ++ [y]).toArray (n + 1)) :: news) → Q .none { s with heap := h', toks := tk' }) :
    wpAny (model Mine.rwv.row.prog w) A (call (.ref 56) [.ref X, y]) Q E s := by
  subst hA
  refine wpAny_call ?_
  refine c_push w p loose mean mg mb X DX PB k1 k2 k3 k4 t1 t3 ln ins y us n hz ho dp un gd env outer A₀ base h₀ L m s _ B F X₀ (sub_news N fun q hq => ?_) T hf hke hdp hun ?_
  · simp only [List.mem_cons, List.not_mem_nil, or_false] at hq
    rcases hq with rfl | rfl | rfl
    · exact .head _
    · exact .tail _ m1
    · exact .tail _ m2
  intro h' tk' hk hl
  refine h h' tk' (fr_after F N hk fun a ha => ?_) (news_after N hk hl fun q hq => ?_)
  · obtain rfl := List.mem_singleton.mp ha; exact ⟨_, .head _⟩
  · rcases List.mem_cons.mp hq with rfl | hq
    · exact .inl ⟨.head _, _, .head _⟩
    · exact .inr ⟨.tail _ hq, by simpa using hoff q hq⟩
theorem call_tokP {X DX PB : Nat} {k1 k2 k3 k4 t1 t3 : Tok} {ln : Int} {ins y : Value} {us : List Value} {n : Nat} (hA : A = tA dp un gd env outer) (B : Below A₀ base outer h₀) (F : Fr h₀ L s.heap m) (X₀ : (hd.heap_39 w.params).In h₀) (N : News h₀ L s.heap ((PB, listOf (y :: us).toArray n) :: news)) (T : Top p loose mean mg mb h₀) (hf : env.frame = some L) (hke : env.scope.kind = .function)
    (hdp : dp + 9 < recursionLimit) (hun : un + 100 < cLine) (m1 : (X, instObj 59 DX) ∈ news) (m2 : (DX, lexDict w.params k1 k2 k3 k4 t1 t3 ln ins PB) ∈ news) (hz : us.length < sizeLine) (ho : DX < X ∧ X < PB) (hoff : ∀ q ∈ news, q.1 ≠ PB)
    (h : ∀ h' tk', Fr h₀ L h' m → News h₀ L h' ((PB, listOf us.toArray (n + 1)) :: news) → Q y { s with heap := h', toks := tk' }) :
    wpAny (model Mine.rwv.row.prog w) A (call (.ref 49) [.ref X]) Q E s := by
  subst hA
  refine wpAny_call ?_
  refine c_tokP w p loose mean mg mb X DX PB k1 k2 k3 k4 t1 t3 ln ins y us n hz ho dp un gd env outer A₀ base h₀ L m s _ B F X₀ (sub_news N fun q hq => ?_) T hf hke hdp hun ?_
  · simp only [List.mem_cons, List.not_mem_nil, or_false] at hq
    rcases hq with rfl | rfl | rfl
    · exact .head _
    · exact .tail _ m1
    · exact .tail _ m2
  intro h' tk' hk hl
  refine h h' tk' (fr_after F N hk fun a ha => ?_) (news_after N hk hl fun q hq => ?_)
  · obtain rfl := List.mem_singleton.mp ha; exact ⟨_, .head _⟩
  · rcases List.mem_cons.mp hq with rfl | hq
    · exact .inl ⟨.head _, _, .head _⟩
    · exact .inr ⟨.tail _ hq, by simpa using hoff q hq⟩
end
end Mine
end
section
open PySem PySem.W PyProof.Rows PySem.Calls
set_option Elab.async false
set_option compiler.extract_closed false
namespace Mine
set_option maxRecDepth 100000
set_option genInjectivity false in
set_option genSizeOfSpec false in
/-- the law's own frame -/
structure Lw where
  script : Option Value := none
  ground : Option Value := none
  other : Option Value := none
  look : Option Value := none
  few : Option Value := none
  more : Option Value := none
  row : Option Value := none
  rank : Option Value := none
  names : Option Value := none
  sizes : Option Value := none
  kind : Option Value := none
  ruler : Option Value := none
  places : Option Value := none
  written : Option Value := none
  text : Option Value := none
  lexer : Option Value := none
  carried : Option Value := none
  carry : Option Value := none
  size : Option Value := none
  total : Option Value := none
  found : Option Value := none
  times : Option Value := none
noncomputable abbrev Lw.m (v : Lw) : Str → Option Value := fun y =>
  if y = Str.ofString "script" then v.script else if y = Str.ofString "ground" then v.ground else if y = Str.ofString "other" then v.other else if y = Str.ofString "look" then v.look
  else if y = Str.ofString "few" then v.few else if y = Str.ofString "more" then v.more else if y = Str.ofString "row" then v.row else if y = Str.ofString "rank" then v.rank
  else if y = Str.ofString "names" then v.names else if y = Str.ofString "sizes" then v.sizes else if y = Str.ofString "kind" then v.kind else if y = Str.ofString "ruler" then v.ruler
  else if y = Str.ofString "places" then v.places else if y = Str.ofString "written" then v.written else if y = Str.ofString "text" then v.text else if y = Str.ofString "lexer" then v.lexer
  else if y = Str.ofString "carried" then v.carried else if y = Str.ofString "carry" then v.carry else if y = Str.ofString "size" then v.size else if y = Str.ofString "total" then v.total
  else if y = Str.ofString "found" then v.found else if y = Str.ofString "times" then v.times else none
theorem lw_none (v : Lw) {y : Str} (h1 : y ≠ Str.ofString "script") (h2 : y ≠ Str.ofString "ground") (h3 : y ≠ Str.ofString "other") (h4 : y ≠ Str.ofString "look") (h5 : y ≠ Str.ofString "few") (h6 : y ≠ Str.ofString "more") (h7 : y ≠ Str.ofString "row") (h8 : y ≠ Str.ofString "rank") (h9 : y ≠ Str.ofString "names") (h10 : y ≠ Str.ofString "sizes") (h11 : y ≠ Str.ofString "kind") (h12 : y ≠ Str.ofString "ruler") (h13 : y ≠ Str.ofString "places") (h14 : y ≠ Str.ofString "written") (h15 : y ≠ Str.ofString "text") (h16 : y ≠ Str.ofString "lexer") (h17 : y ≠ Str.ofString "carried") (h18 : y ≠ Str.ofString "carry") (h19 : y ≠ Str.ofString "size") (h20 : y ≠ Str.ofString "total") (h21 : y ≠ Str.ofString "found") (h22 : y ≠ Str.ofString "times") : v.m y = none :=
  (if_neg h1).trans ((if_neg h2).trans ((if_neg h3).trans ((if_neg h4).trans ((if_neg h5).trans ((if_neg h6).trans ((if_neg h7).trans ((if_neg h8).trans ((if_neg h9).trans ((if_neg h10).trans ((if_neg h11).trans ((if_neg h12).trans ((if_neg h13).trans ((if_neg h14).trans ((if_neg h15).trans ((if_neg h16).trans ((if_neg h17).trans ((if_neg h18).trans ((if_neg h19).trans ((if_neg h20).trans ((if_neg h21).trans (if_neg h22)))))))))))))))))))))
/-- two frames agree when they agree at the law's names and both are empty elsewhere -/
theorem lw_ext {m : Str → Option Value} {v : Lw}
    (h : m (Str.ofString "script") = v.script ∧ m (Str.ofString "ground") = v.ground ∧ m (Str.ofString "other") = v.other ∧ m (Str.ofString "look") = v.look ∧ m (Str.ofString "few") = v.few ∧ m (Str.ofString "more") = v.more
      ∧ m (Str.ofString "row") = v.row ∧ m (Str.ofString "rank") = v.rank ∧ m (Str.ofString "names") = v.names ∧ m (Str.ofString "sizes") = v.sizes ∧ m (Str.ofString "kind") = v.kind ∧ m (Str.ofString "ruler") = v.ruler
      ∧ m (Str.ofString "places") = v.places ∧ m (Str.ofString "written") = v.written ∧ m (Str.ofString "text") = v.text ∧ m (Str.ofString "lexer") = v.lexer ∧ m (Str.ofString "carried") = v.carried ∧ m (Str.ofString "carry") = v.carry
      ∧ m (Str.ofString "size") = v.size ∧ m (Str.ofString "total") = v.total ∧ m (Str.ofString "found") = v.found ∧ m (Str.ofString "times") = v.times)
    (ho : ∀ y, y ≠ Str.ofString "script" → y ≠ Str.ofString "ground" → y ≠ Str.ofString "other" → y ≠ Str.ofString "look" → y ≠ Str.ofString "few" → y ≠ Str.ofString "more" → y ≠ Str.ofString "row" → y ≠ Str.ofString "rank" → y ≠ Str.ofString "names" → y ≠ Str.ofString "sizes"
      → y ≠ Str.ofString "kind" → y ≠ Str.ofString "ruler" → y ≠ Str.ofString "places" → y ≠ Str.ofString "written" → y ≠ Str.ofString "text" → y ≠ Str.ofString "lexer" → y ≠ Str.ofString "carried" → y ≠ Str.ofString "carry" → y ≠ Str.ofString "size" → y ≠ Str.ofString "total" → y ≠ Str.ofString "found" → y ≠ Str.ofString "times" → m y = none) : m = v.m := by
  obtain ⟨e1, e2, e3, e4, e5, e6, e7, e8, e9, e10, e11, e12, e13, e14, e15, e16, e17, e18, e19, e20, e21, e22⟩ := h
  funext y
  by_cases h1 : y = Str.ofString "script"
  · subst h1; exact e1
  by_cases h2 : y = Str.ofString "ground"
  · subst h2; exact e2
  by_cases h3 : y = Str.ofString "other"
  · subst h3; exact e3
  by_cases h4 : y = Str.ofString "look"
  · subst h4; exact e4
  by_cases h5 : y = Str.ofString "few"
  · subst h5; exact e5
  by_cases h6 : y = Str.ofString "more"
  · subst h6; exact e6
  by_cases h7 : y = Str.ofString "row"
  · subst h7; exact e7
  by_cases h8 : y = Str.ofString "rank"
  · subst h8; exact e8
  by_cases h9 : y = Str.ofString "names"
  · subst h9; exact e9
  by_cases h10 : y = Str.ofString "sizes"
  · subst h10; exact e10
  by_cases h11 : y = Str.ofString "kind"
  · subst h11; exact e11
  by_cases h12 : y = Str.ofString "ruler"
  · subst h12; exact e12
  by_cases h13 : y = Str.ofString "places"
  · subst h13; exact e13
  by_cases h14 : y = Str.ofString "written"
  · subst h14; exact e14
  by_cases h15 : y = Str.ofString "text"
  · subst h15; exact e15
  by_cases h16 : y = Str.ofString "lexer"
  · subst h16; exact e16
  by_cases h17 : y = Str.ofString "carried"
  · subst h17; exact e17
  by_cases h18 : y = Str.ofString "carry"
  · subst h18; exact e18
  by_cases h19 : y = Str.ofString "size"
  · subst h19; exact e19
  by_cases h20 : y = Str.ofString "total"
  · subst h20; exact e20
  by_cases h21 : y = Str.ofString "found"
  · subst h21; exact e21
  by_cases h22 : y = Str.ofString "times"
  · subst h22; exact e22
  exact (ho y h1 h2 h3 h4 h5 h6 h7 h8 h9 h10 h11 h12 h13 h14 h15 h16 h17 h18 h19 h20 h21 h22).trans (lw_none v h1 h2 h3 h4 h5 h6 h7 h8 h9 h10 h11 h12 h13 h14 h15 h16 h17 h18 h19 h20 h21 h22).symm
theorem bindL_one (k : Str → Option NameKind) (n : Str) (v : Value) (hk : k n = some .local) : bindL k [(n, v)] (fun _ => none) = fun y => if y = n then some v else none := by
  show (if k n = some .local then _ else _) = _
  rw [if_pos hk]
theorem Fr.lw {g h : Heap} {L : Addr} {m : Str → Option Value} {v : Lw} (F : Fr g L h m) (e : m = v.m) : Fr g L h v.m := e ▸ F
theorem prime_lo (k : Int) : 2 ≤ 3 + 2 * Int.fmod k 3 := by have := Int.fmod_nonneg_of_pos k (show (0:Int) < 3 by decide); omega
theorem prime_hi (k : Int) : 3 + 2 * Int.fmod k 3 < 100 := by have := Int.fmod_lt_of_pos k (show (0:Int) < 3 by decide); omega
theorem prime_is (k : Int) : 3 + 2 * Int.fmod k 3 = 3 ∨ 3 + 2 * Int.fmod k 3 = 5 ∨ 3 + 2 * Int.fmod k 3 = 7 := by
  have := Int.fmod_nonneg_of_pos k (show (0:Int) < 3 by decide)
  have := Int.fmod_lt_of_pos k (show (0:Int) < 3 by decide)
  omega
theorem fm60 (k : Int) : 0 ≤ Int.fmod k 60 ∧ Int.fmod k 60 < 60 := ⟨Int.fmod_nonneg_of_pos k (by decide), Int.fmod_lt_of_pos k (by decide)⟩
theorem many_lo (k : Int) : 2 ≤ Int.fmod k 60 + Int.fmod (Int.fdiv k 60) 60 + 9 := by have := fm60 k; have := fm60 (Int.fdiv k 60); omega
theorem many_hi (k : Int) : Int.fmod k 60 + Int.fmod (Int.fdiv k 60) 60 + 9 < 200 := by have := fm60 k; have := fm60 (Int.fdiv k 60); omega
theorem gen_cell {o : Obj} {x : Int} {t : Tok} (h : o.data = .cell (some (.int x t))) : ∃ t', o.data = .cell (some (.int x t')) := ⟨t, h⟩
theorem gen1 {g h : Heap} {L : Addr} {m : Str → Option Value} {sc : Value} {k1 k2 k3 k4 k5 : Int} {t1 t2 t3 t4 t5 : Tok} (F : Fr g L h m) (e : m = Lw.m { script := some sc, ground := some (.int k1 t1), other := some (.int k2 t2), look := some (.int k3 t3), few := some (.int k4 t4), more := some (.int k5 t5) }) :
    ∃ t1 t2 t3 t4 t5, Fr g L h (Lw.m { script := some sc, ground := some (.int k1 t1), other := some (.int k2 t2), look := some (.int k3 t3), few := some (.int k4 t4), more := some (.int k5 t5) }) := ⟨t1, t2, t3, t4, t5, e ▸ F⟩
end Mine
end
section
open PySem PySem.W PyProof.Rows PySem.Calls PySem.Spec
set_option Elab.async false
set_option compiler.extract_closed false
namespace Mine
set_option maxRecDepth 100000
section
variable {prog : Program} {w : World} {A : Around} {E : Value → Shared → Prop} {s : Shared}
theorem wpAny_alive {a : Addr} {Q : Option Obj → Shared → Prop} (h : Q (s.heap.get? a) s) : wpAny (model prog w) A (loadIfAlive a) Q E s := fun _ _ _ => h
/-- a zip that has handed out a tuple which still stands -/
noncomputable abbrev IsHeld (h : Heap) (z TI TO T : Addr) (b : Bool) : Prop :=
  h.get? z = some { cls := .type "zip", dict := none, data := .fields #[rawInt T, .bool b, .bool false, .ref TI, .ref TO], slots := #[] }
theorem free_held {z TI TO T : Addr} {b : Bool} {o : Obj} {Q : Bool → Shared → Prop} (hz : IsHeld s.heap z TI TO T b) (hT : s.heap.get? T = some o)
    (h : ∀ h', IsHeld h' z TI TO T true → Heap.SameBut z s.heap h' → Q false { s with heap := h' }) : wpAny (model prog w) A (Builtin.SmallTypes.ownedTupleIsFree (.ref z)) Q E s := by
  unfold Builtin.SmallTypes.ownedTupleIsFree
  refine wpAny_bind (wpAny_field hz rfl (x := rawInt T) rfl ?_)
  show wpAny _ _ (loadIfAlive _ >>= _) _ _ _
  refine wpAny_bind (wpAny_alive ?_)
  have e : ((T : Int).toNat) = T := Int.toNat_natCast T
  rw [e, hT]
  show wpAny _ _ (field (.ref z) 1 >>= _) _ _ _
  refine wpAny_bind (wpAny_field hz rfl (x := .bool b) rfl ?_)
  cases b with
  | true => exact wpAny_pure (h s.heap hz (Heap.SameBut.refl _ _))
  | false =>
    refine wpAny_bind ?_
    refine wpAny_setField_rec hz (by simp) fun h₁ hz₁ hs₁ => ?_
    exact wpAny_pure (h h₁ hz₁ hs₁)
theorem zip_held_item {z TI TO T i1 i2 l1 l2 : Addr} {k1 k2 : Nat} {bb : Bool} {oT : Obj} {xs ys : Array Value} {x y : Value} {Q : Value → Shared → Prop} (D : ZipApart z TI TO i1 i2 l1 l2)
    (hz : IsHeld s.heap z TI TO T bb) (hT : s.heap.get? T = some oT) (hTI : IsPair s.heap TI (.ref i1) (.ref i2))
    (h1 : s.heap.IsListIter i1 l1 k1) (h2 : s.heap.IsListIter i2 l2 k2) (hl1 : s.heap.IsList l1 xs) (hl2 : s.heap.IsList l2 ys) (hx : xs[k1]? = some x) (hy : ys[k2]? = some y)
    (hQ : ∀ h', IsHeld h' z TI TO T true → h'.IsListIter i1 l1 (k1 + 1) → h'.IsListIter i2 l2 (k2 + 1) → IsPair h' s.heap.objs.size x y → h'.objs.size = s.heap.objs.size + 1 →
      (∀ c o, c ≠ z → c ≠ i1 → c ≠ i2 → s.heap.get? c = some o → h'.get? c = some o) → Q (.ref s.heap.objs.size) { s with heap := h' }) :
    wpAny (model prog w) A (Builtin.«zip.__next__» ⟨[.ref z], []⟩) (fun fin s' => ∃ v, fin = .done (.ret v) ∧ Q v s') E s := by
  show wpAny _ _ (field (.ref z) 2 >>= _) _ _ _
  refine wpAny_bind (wpAny_field hz rfl (x := .bool false) rfl ?_)
  show wpAny _ _ (field (.ref z) 3 >>= _) _ _ _
  refine wpAny_bind (wpAny_field hz rfl (x := .ref TI) rfl ?_)
  refine wpAny_bind (wpAny_seqItems hTI rfl ?_)
  show wpAny _ _ (Builtin.SmallTypes.ownedTupleIsFree (.ref z) >>= _) _ _ _
  refine wpAny_bind (free_held hz hT fun h₁ hz₁ hs₁ => ?_)
  simp only [Bool.false_eq_true, if_false]
  refine wpAny_bind ?_
  simp only [← Array.forIn_toList, List.forIn_cons, List.forIn_nil]
  refine wpAny_bind (wpAny_bind (wpAny_holding ?_))
  show wpAny _ _ (Builtin.SmallTypes.nextOf (.ref i1) >>= _) _ _ _
  refine wpAny_bind (wpAny_nextOf_list_item (h1.extBut hs₁.extBut D.i1z) (hl1.extBut hs₁.extBut D.l1z) hx fun h₂ h1₂ hs₂ => wpAny_pure ?_)
  refine wpAny_pure ?_
  refine wpAny_bind (wpAny_bind (wpAny_holding ?_))
  show wpAny _ _ (Builtin.SmallTypes.nextOf (.ref i2) >>= _) _ _ _
  refine wpAny_bind (wpAny_nextOf_list_item ((h2.extBut hs₁.extBut D.i2z).extBut hs₂.extBut D.i12.symm) ((hl2.extBut hs₁.extBut D.l2z).extBut hs₂.extBut D.l2i1) hy fun h₃ h2₃ hs₃ => wpAny_pure ?_)
  refine wpAny_pure (wpAny_pure ?_)
  show wpAny _ _ (newTuple [x, y] >>= _) _ _ _
  refine wpAny_bind (wpAny_newTuple ?_)
  have hsz : h₃.objs.size = s.heap.objs.size := by rw [hs₃.1, hs₂.1, hs₁.1]
  have hz₃ : IsHeld h₃ z TI TO T true := hs₃.extBut _ _ D.i2z.symm (hs₂.extBut _ _ D.i1z.symm hz₁)
  have hk₃ : ∀ c o, c ≠ z → c ≠ i1 → c ≠ i2 → s.heap.get? c = some o → h₃.get? c = some o := fun c o c1 c3 c4 e =>
    hs₃.extBut _ _ c4 (hs₂.extBut _ _ c3 (hs₁.extBut _ _ c1 e))
  have h1₃ : h₃.IsListIter i1 l1 (k1 + 1) := h1₂.extBut hs₃.extBut D.i12
  refine wpAny_pure ⟨_, rfl, ?_⟩
  show Q (.ref h₃.objs.size) _
  rw [hsz]
  have up : ∀ c o, h₃.get? c = some o → (h₃.push { cls := .type "tuple", data := .seq #[x, y] }).get? c = some o := fun c o e => Heap.get?_push_of_some _ e
  refine hQ _ (up _ _ hz₃) (h1₃.at fun o e => up _ o e) (h2₃.at fun o e => up _ o e) ?_ ?_ fun c o c1 c3 c4 e => up c o (hk₃ c o c1 c3 c4 e)
  · rw [← hsz]; exact Heap.get?_push_size _ rfl
  · rw [Heap.size_push, hsz]
theorem zip_held_end {z TI TO T i1 i2 l1 l2 : Addr} {k1 k2 : Nat} {bb : Bool} {oT : Obj} {xs : Array Value} {Q : Fin → Shared → Prop} (hh : A.handled = none) (D : ZipApart z TI TO i1 i2 l1 l2)
    (hz : IsHeld s.heap z TI TO T bb) (hT : s.heap.get? T = some oT) (hTI : IsPair s.heap TI (.ref i1) (.ref i2))
    (h1 : s.heap.IsListIter i1 l1 k1) (hl1 : s.heap.IsList l1 xs) (hend : xs[k1]? = none)
    (hE : ∀ h' e, (∀ c o, c ≠ z → c ≠ TO → c ≠ i1 → c ≠ i2 → s.heap.get? c = some o → h'.get? c = some o) → (∃ o, h'.get? e = some o ∧ o.cls = .type "StopIteration") → E (.ref e) { s with heap := h' }) :
    wpAny (model prog w) A (Builtin.«zip.__next__» ⟨[.ref z], []⟩) Q E s := by
  show wpAny _ _ (field (.ref z) 2 >>= _) _ _ _
  refine wpAny_bind (wpAny_field hz rfl (x := .bool false) rfl ?_)
  show wpAny _ _ (field (.ref z) 3 >>= _) _ _ _
  refine wpAny_bind (wpAny_field hz rfl (x := .ref TI) rfl ?_)
  refine wpAny_bind (wpAny_seqItems hTI rfl ?_)
  show wpAny _ _ (Builtin.SmallTypes.ownedTupleIsFree (.ref z) >>= _) _ _ _
  refine wpAny_bind (free_held hz hT fun h₁ hz₁ hs₁ => ?_)
  simp only [Bool.false_eq_true, if_false]
  refine wpAny_bind ?_
  simp only [← Array.forIn_toList, List.forIn_cons, List.forIn_nil]
  refine wpAny_bind (wpAny_bind (wpAny_holding ?_))
  show wpAny _ _ (Builtin.SmallTypes.nextOf (.ref i1) >>= _) _ _ _
  refine wpAny_bind (wpAny_nextOf_list_end hh (h1.extBut hs₁.extBut D.i1z) (hl1.extBut hs₁.extBut D.l1z) hend fun h₂ e hs₂ he => ?_)
  exact hE h₂ e (fun c o c1 _ c3 _ x => hs₂ _ _ c3 (hs₁.extBut _ _ c1 x)) he
/-- a zip between two turns: free, or its first tuple still stands -/
noncomputable def ZipSt (h : Heap) (z TI TO : Addr) : Prop := IsZip h z TI TO .none ∨ ∃ T b o, IsHeld h z TI TO T b ∧ h.get? T = some o
theorem next_zip_item {z TI TO i1 i2 l1 l2 : Addr} {k1 k2 : Nat} {xs ys : Array Value} {x y : Value} {Q : Option Value → Shared → Prop} (D : ZipApart z TI TO i1 i2 l1 l2)
    (hz : ZipSt s.heap z TI TO) (hTI : IsPair s.heap TI (.ref i1) (.ref i2)) (hTO : ∃ a b, IsPair s.heap TO a b) {P : Addr → Prop} (hP : ∀ T, P T → T ≠ z ∧ T ≠ i1 ∧ T ≠ i2) (hnew : P s.heap.objs.size) (hzs : ∀ T b, IsHeld s.heap z TI TO T b → P T)
    (h1 : s.heap.IsListIter i1 l1 k1) (h2 : s.heap.IsListIter i2 l2 k2) (hl1 : s.heap.IsList l1 xs) (hl2 : s.heap.IsList l2 ys) (hx : xs[k1]? = some x) (hy : ys[k2]? = some y)
    (hQ : ∀ h', ZipSt h' z TI TO → (∀ T b, IsHeld h' z TI TO T b → P T) → (∃ a b, IsPair h' TO a b) → h'.IsListIter i1 l1 (k1 + 1) → h'.IsListIter i2 l2 (k2 + 1) → IsPair h' s.heap.objs.size x y → h'.objs.size = s.heap.objs.size + 1 →
      (∀ c o, c ≠ z → c ≠ TO → c ≠ i1 → c ≠ i2 → s.heap.get? c = some o → h'.get? c = some o) → Q (some (.ref s.heap.objs.size)) { s with heap := h' }) :
    wpAny (model prog w) A (pyNext (.ref z)) Q E s := by
  obtain ⟨a, b, hTO⟩ := hTO
  have hzlt : z < s.heap.objs.size := by rcases hz with hz | ⟨T, b, o, hz, _⟩ <;> exact Heap.lt_size hz
  have hTOlt : TO < s.heap.objs.size := Heap.lt_size hTO
  have hi1lt : i1 < s.heap.objs.size := by obtain ⟨_, e, _⟩ := id h1; exact Heap.lt_size e
  have hi2lt : i2 < s.heap.objs.size := by obtain ⟨_, e, _⟩ := id h2; exact Heap.lt_size e
  rcases hz with hz | ⟨T, bb, o, hz, hT⟩
  · refine wpAny_pyNext_zip_item D hz hTI hTO h1 h2 hl1 hl2 hx hy fun h' z' to' a1 a2 p' sz k => ?_
    refine hQ h' (.inr ⟨_, false, _, z', p'⟩) (fun T b hh => ?_) ⟨_, _, to'⟩ a1 a2 p' sz k
    have e := z'.symm.trans hh
    have e2 : (s.heap.objs.size : Int) = (T : Int) := (by simpa [rawInt] using e : (s.heap.objs.size : Int) = (T : Int) ∧ _).1
    have e3 : s.heap.objs.size = T := by exact_mod_cast e2
    rw [← e3]
    exact hnew
  · obtain ⟨n1, n3, n4⟩ := hP T (hzs T bb hz)
    have hTy : s.TypeIs (.ref z) "zip" := ⟨_, hz, rfl⟩
    unfold pyNext
    refine wpAny_bind (wpAny_attempt (wpAny_callSpecial?_slot (name := Str.ofString "__next__") hTy F.slot_zip_next
      (wpAny_call_entry F.slot_zip_next hTy F.entry_zip_next
        (zip_held_item D hz hT hTI h1 h2 hl1 hl2 hx hy fun h' z' a1 a2 p' sz k => wpAny_pure ?_) (F.args_zip_next_1 _))))
    refine hQ h' (.inr ⟨T, true, o, z', k T o n1 n3 n4 hT⟩) (fun T' b' hh => ?_) ⟨a, b, k _ _ D.TOz D.TOi1 D.TOi2 hTO⟩ a1 a2 p' sz (fun c o c1 _ c3 c4 e => k c o c1 c3 c4 e)
    · have e := z'.symm.trans hh
      have e2 : (T : Int) = (T' : Int) := (by simpa [rawInt] using e : (T : Int) = (T' : Int) ∧ _).1
      have e3 : T = T' := by exact_mod_cast e2
      rw [← e3]
      exact hzs T bb hz
theorem next_zip_end {z TI TO i1 i2 l1 l2 : Addr} {k1 k2 : Nat} {xs ys : Array Value} {Q : Option Value → Shared → Prop} (hh : A.handled = none) (D : ZipApart z TI TO i1 i2 l1 l2)
    (hz : ZipSt s.heap z TI TO) (hTI : IsPair s.heap TI (.ref i1) (.ref i2)) (hTO : ∃ a b, IsPair s.heap TO a b)
    (h1 : s.heap.IsListIter i1 l1 k1) (h2 : s.heap.IsListIter i2 l2 k2) (hl1 : s.heap.IsList l1 xs) (hl2 : s.heap.IsList l2 ys) (hend : xs[k1]? = none)
    (hQ : ∀ h', (∀ c o, c ≠ z → c ≠ TO → c ≠ i1 → c ≠ i2 → s.heap.get? c = some o → h'.get? c = some o) → Q none { s with heap := h' }) : wpAny (model prog w) A (pyNext (.ref z)) Q E s := by
  obtain ⟨a, b, hTO⟩ := hTO
  rcases hz with hz | ⟨T, bb, o, hz, hT⟩
  · exact wpAny_pyNext_zip_end hh D hz hTI hTO h1 h2 hl1 hl2 (.inl hend) hQ
  · have hTy : s.TypeIs (.ref z) "zip" := ⟨_, hz, rfl⟩
    unfold pyNext
    refine wpAny_bind (wpAny_attempt (wpAny_callSpecial?_slot (name := Str.ofString "__next__") hTy F.slot_zip_next
      (wpAny_call_entry F.slot_zip_next hTy F.entry_zip_next (zip_held_end (k2 := k2) hh D hz hT hTI h1 hl1 hend fun h' e hk he => ?_) (F.args_zip_next_1 _))))
    obtain ⟨o, ho, hc⟩ := he
    refine wpAny_bind (wpAny_isInstance (T := "StopIteration") (b := true) ⟨o, ho, hc⟩ isSubtype_stop ?_)
    exact wpAny_pure (hQ _ hk)
end
end Mine
end
section
open PySem PySem.W PyProof.Rows PySem.Calls PySem.Spec
set_option Elab.async false
set_option compiler.extract_closed false
namespace Mine
set_option maxRecDepth 100000
open LCg
noncomputable abbrev cmp2 (elt iter : Expr) (a b : Str) (pa p1 p2 : Pos) (scope : Scope) (pos : Pos) : Expr := .ListComp elt [⟨.Name a pa, iter, [], 0⟩, ⟨.Name b p1, .Name a p2, [], 0⟩] scope pos
theorem turn0 (elt iter : Expr) (a b : Str) (pa p1 p2 : Pos) (scope : Scope) (pos : Pos) (it acc : Value) (env : Env) :
    compTurn (cmp2 elt iter a b pa p1 p2 scope pos) 0 it acc env = (standAt iter.pos >>= fun _ => pyNext it >>= fun r => match r with
      | none => pure (.done .next)
      | some v => assign (.Name a pa) env v >>= fun _ => eval (.Name a p2) env >>= fun x => standAt p2 >>= fun _ => holding [x] (pyIter x) >>= fun it2 =>
          runOwn (.compStart (cmp2 elt iter a b pa p1 p2 scope pos) 1 it2 acc env) env >>= fun _ => again (.compLoop (cmp2 elt iter a b pa p1 p2 scope pos) 0 it acc env)) := by rfl
theorem turn1 (elt iter : Expr) (a b : Str) (pa p1 p2 : Pos) (scope : Scope) (pos : Pos) (it acc : Value) (env : Env) :
    compTurn (cmp2 elt iter a b pa p1 p2 scope pos) 1 it acc env = (standAt p2 >>= fun _ => pyNext it >>= fun r => match r with
      | none => pure (.done .next)
      | some v => assign (.Name b p1) env v >>= fun _ => (eval elt env >>= fun x => call (.builtin "list.append") [acc, x] >>= fun _ => pure ()) >>= fun _ =>
          again (.compLoop (cmp2 elt iter a b pa p1 p2 scope pos) 1 it acc env)) := by rfl
section
variable {prog : Program} {w : World} {A : Around} {E : Value → Shared → Prop} {s : Shared}
theorem inner_loop {iter : Expr} {a b : Str} {pa p1 p2 pe : Pos} {scope : Scope} {cl : List (Str × Addr)} {pos : Pos} {env : Env} {J T D C : Addr} {x y : Value} {ys : List Value} {m' : Str → Option Value} {R : Result → Shared → Prop} (hh : A.handled = none)
    (hkind : scope.kind = .function) (hb : scope.names.lookup b = some .local) (hbd : (b == ("__debug__" : Str)) = false)
    (hJ : IsTupIter s.heap J T 0) (hT : IsTup s.heap T #[x, y]) (hC : s.heap.Ns C m') (hD : s.heap.get? D = some (lst ys)) (hys : ys.length < 1000)
    (n1 : J ≠ T) (n2 : J ≠ C) (n3 : J ≠ D) (n4 : T ≠ C) (n5 : T ≠ D) (n6 : C ≠ D)
    (hR : ∀ h' tk m'', (∀ c o, c ≠ J → c ≠ C → c ≠ D → s.heap.get? c = some o → h'.get? c = some o) → h'.Ns C m'' → h'.get? D = some (lst (ys ++ [x, y])) → R (.ok .next) { s with heap := h', toks := tk }) :
    codeAny (model prog w) A (.compLoop (cmp2 (.Name b pe) iter a b pa p1 p2 scope pos) 1 (.ref J) (.ref D) (compEnvC scope cl C env)) R s := by
  refine codeAny_loop rfl (fun k s' => ∃ i h' tk m'', s' = { s with heap := h', toks := tk } ∧ i ≤ 2 ∧ k = 2 - i ∧ (∀ c o, c ≠ J → c ≠ C → c ≠ D → s.heap.get? c = some o → h'.get? c = some o) ∧ h'.Ns C m'' ∧
    IsTupIter h' J T i ∧ h'.get? D = some (lst (ys ++ [x, y].take i))) ?_ 2 ⟨0, s.heap, s.toks, m', rfl, by omega, rfl, fun _ _ _ _ _ e => e, hC, hJ, by simpa using hD⟩
  rintro k _ ⟨i, h', tk, m'', rfl, hi, rfl, hk, hC', hJ', hD'⟩
  show wpAny _ A ((compTurn (cmp2 (.Name b pe) iter a b pa p1 p2 scope pos) 1 (.ref J) (.ref D) (compEnvC scope cl C env)).onRaise (fun x => do noteFrame x (compEnvC scope cl C env); theTreesLotGoes x)) _ _ _
  refine wpAny_noted ?_
  rw [turn1]
  refine wpAny_bind (wpAny_standAt (wpAny_bind ?_))
  have hT' : IsTup h' T #[x, y] := by
    obtain ⟨o, e, r⟩ := hT
    exact ⟨o, hk _ _ n1.symm n4 n5 e, r⟩
  rcases Nat.lt_or_ge i 2 with hlt | hge
  · obtain ⟨v, hv⟩ : ∃ v, (#[x, y] : Array Value)[i]? = some v := ⟨_, Array.getElem?_eq_getElem hlt⟩
    have htk : [x, y].take (i + 1) = [x, y].take i ++ [v] := by
      have : [x, y][i]? = some v := by simpa using hv
      simp [List.take_add_one, this]
    refine next_tuple_item hJ' hT' hv fun h₁ hJ₁ hs₁ => ?_
    refine wpAny_bind (wpAny_assign_Name (wpAny_storeName_local (lookup_relabel_local hb) (hC'.sameBut hs₁ n2.symm) (fun h₂ hn₂ hs₂ => ?_) (by simp [compEnvC, relabel, hkind])))
    refine wpAny_bind (wpAny_bind (ldVarK (v := v) hn₂ (by simp) ?_ (by simp [compEnvC, relabel, hkind]) (lookup_relabel_local hb) hbd))
    refine wpAny_bind ?_
    have hD₂ : h₂.get? D = some (lst (ys ++ [x, y].take i)) := (hs₂.2 _ n6.symm).trans ((hs₁.2 _ n3.symm).trans hD')
    refine append_at (hsz := by show (ys ++ [x, y].take i).toArray.size ≤ sizeLine; rw [List.size_toArray, List.length_append, List.length_take, sizeLine_eq]; simp only [List.length_cons, List.length_nil]; omega) hD₂ fun h₃ hs₃ hD₃ => ?_
    refine wpAny_pure (wpAny_pure ⟨rfl, 2 - (i + 1), by omega, i + 1, h₃, _, _, rfl, by omega, rfl, fun c o c1 c2 c3 e => ?_, hn₂.sameBut hs₃ n6, ?_, ?_⟩)
    · exact (hs₃.2 _ c3).trans ((hs₂.2 _ c2).trans ((hs₁.2 _ c1).trans (hk c o c1 c2 c3 e)))
    · obtain ⟨o, e, r⟩ := hJ₁
      exact ⟨o, (hs₃.2 _ n3).trans ((hs₂.2 _ n2).trans e), r⟩
    · rw [hD₃, htk]
      have := lst_snoc (ys ++ [x, y].take i) v
      rw [List.append_assoc] at this
      exact congrArg some this
  · obtain rfl : i = 2 := by omega
    refine next_tuple_end hh hJ' hT' (by rfl) fun h₁ hs₁ => ?_
    refine wpAny_pure ?_
    refine hR h₁ tk m'' (fun c o c1 c2 c3 e => hs₁ _ _ c1 (hk c o c1 c2 c3 e)) (hC'.at' fun o e => hs₁ _ _ n2.symm e) (hs₁ _ _ n3.symm (by simpa using hD'))
theorem start1 {elt iter : Expr} {a b : Str} {pa p1 p2 : Pos} {scope : Scope} {pos : Pos} {it acc : Value} {env : Env} {R : Result → Shared → Prop}
    (h0 : codeAny (model prog w) A (.compLoop (cmp2 elt iter a b pa p1 p2 scope pos) 1 it acc env) R s)
    (h : wpAny (model prog w) A (pyIter it) (fun it' s' => codeAny (model prog w) A (.compLoop (cmp2 elt iter a b pa p1 p2 scope pos) 1 it' acc env) R s') (fun _ _ => False) s) :
    codeAny (model prog w) A (.compStart (cmp2 elt iter a b pa p1 p2 scope pos) 1 it acc env) R s := by
  refine codeAny_of_tree ?_
  show wpAny _ _ ((compStart (cmp2 elt iter a b pa p1 p2 scope pos) 1 it acc env).onRaise (fun x => do noteFrame x env; standAt theWindowsPlace)) _ _ s
  refine wpAny_notedAt ?_
  unfold compStart
  show wpAny _ _ (ask >>= _) _ _ s
  refine wpAny_bind (wpAny_askSetting (wpAny_ite ?_))
  split
  · first
      | exact wpAny_bind (wpAny_pure (wpAny_pure (And.intro rfl h0)))
      | exact wpAny_pure (And.intro rfl h0)
  · refine wpAny_bind (wpAny_rule ?_)
    show wpAny _ _ (standAt p2 >>= _) _ _ s
    exact wpAny_bind (wpAny_standAt (wpAny_bind (wpAny_mono h (fun it' s' h' => wpAny_pure (And.intro rfl h')) fun _ _ x => x.elim)))
noncomputable def inter : List Int → List Int → List Int
  | a :: r, b :: q => a :: b :: inter r q
  | _, _ => []
theorem inter_take : ∀ (k : Nat) (as bs : List Int) (a b : Int), as[k]? = some a → bs[k]? = some b → inter (as.take (k + 1)) (bs.take (k + 1)) = inter (as.take k) (bs.take k) ++ [a, b]
  | 0, a :: r, b :: q, _, _, h1, h2 => by simp at h1 h2; subst h1; subst h2; simp [inter]
  | k + 1, a :: r, b :: q, x, y, h1, h2 => by
    have := inter_take k r q x y (by simpa using h1) (by simpa using h2)
    simp only [List.take_succ_cons, inter]
    rw [this]; rfl
  | _, [], _, _, _, h1, _ => by simp at h1
  | _, _ :: _, [], _, _, _, h2 => by simp at h2
theorem ints_snoc2 {vs : List Value} {ns : List Int} (h : IntsAre vs ns) (a b : Int) (t u : Tok) : IntsAre (vs ++ [.int a t, .int b u]) (ns ++ [a, b]) := by
  induction h with
  | nil => exact .cons a t (.cons b u .nil)
  | cons k t' _ ih => exact .cons k t' ih
/-- what a zip of two lists of the ledger is, when it was made last -/
noncomputable def ZipSrc (h₀ : Heap) (L : Addr) (m : Str → Option Value) (news : List (Addr × Obj)) (ks1 ks2 : List Int) (xv : Value) (s₁ : Shared) : Prop :=
  ∃ (S l1 l2 : Addr) (xs ys : List Value) (n1 n2 : Nat), xv = .ref (S + 4) ∧ Fr h₀ L s₁.heap m ∧ News h₀ L s₁.heap news ∧ (l1, listOf xs.toArray n1) ∈ news ∧ (l2, listOf ys.toArray n2) ∈ news ∧ IntsAre xs ks1 ∧ IntsAre ys ks2 ∧
    (∀ p ∈ news, p.1 < S) ∧ L < S ∧ s₁.heap.objs.size = S + 5 ∧ (∀ b, S ≤ b → h₀.get? b = none) ∧
    IsZip s₁.heap (S + 4) (S + 2) (S + 3) .none ∧ IsPair s₁.heap (S + 2) (.ref S) (.ref (S + 1)) ∧ IsPair s₁.heap (S + 3) .none .none ∧ s₁.heap.IsListIter S l1 0 ∧ s₁.heap.IsListIter (S + 1) l2 0
theorem zip_src {h₀ : Heap} {L l1 l2 : Addr} {m : Str → Option Value} {news : List (Addr × Obj)} {ks1 ks2 : List Int} {xs ys : List Value} {n1 n2 : Nat} (F : Fr h₀ L s.heap m) (N : News h₀ L s.heap news) (m1 : (l1, listOf xs.toArray n1) ∈ news) (m2 : (l2, listOf ys.toArray n2) ∈ news)
    (i1 : IntsAre xs ks1) (i2 : IntsAre ys ks2) : wpAny (model prog w) A (call (.type "zip") [.ref l1, .ref l2]) (fun xv s' => (∃ h', s' = { s with heap := h' }) ∧ ZipSrc h₀ L m news ks1 ks2 xv s') E s := by
  refine call_zip_2 (xs := xs.toArray) (ys := ys.toArray) (news_list N m1) (news_list N m2) fun h' z ti to' a1 a2 sz k => ⟨⟨h', rfl⟩, ?_⟩
  refine ⟨s.heap.objs.size, l1, l2, xs, ys, n1, n2, rfl, F.keeps k, N.grown k, m1, m2, i1, i2, fun p hp => Heap.lt_size (N p hp).1, F.ns.lt, sz, fun b hb => ?_, z, ti, to', a1, a2⟩
  cases e : h₀.get? b with
  | none => rfl
  | some o => exact absurd (Heap.lt_size (F.keep b o e)) (Nat.not_lt.mpr hb)
theorem fr_below {h₀ h h' : Heap} {L S : Addr} {m : Str → Option Value} (F : Fr h₀ L h m) (hL : L < S) (h0 : ∀ b, S ≤ b → h₀.get? b = none) (hk : ∀ c o, c < S → h.get? c = some o → h'.get? c = some o) : Fr h₀ L h' m :=
  ⟨F.ns.at' fun o e => hk L o hL e, fun b o e => hk b o (Nat.lt_of_not_le fun q => by rw [h0 b q] at e; cases e) (F.keep b o e), F.above⟩
theorem news_below {h₀ h h' : Heap} {L S : Addr} {news : List (Addr × Obj)} (N : News h₀ L h news) (hn : ∀ p ∈ news, p.1 < S) (hk : ∀ c o, c < S → h.get? c = some o → h'.get? c = some o) : News h₀ L h' news :=
  fun p hp => ⟨hk _ _ (hn p hp) (N p hp).1, (N p hp).2⟩
theorem neA {a b : Nat} (h : a < b ∨ b < a) : @Ne Addr a b := fun e => by have : (a : Nat) = b := e; omega
theorem apartS {S l1 l2 : Nat} (h1 : l1 < S) (h2 : l2 < S) : ZipApart (S + 4) (S + 2) (S + 3) S (S + 1) l1 l2 := by
  constructor <;> exact neA (by first | exact .inl (Nat.add_lt_add_left (by decide) _) | exact .inr (Nat.add_lt_add_left (by decide) _) | exact .inl (Nat.lt_add_of_pos_right (by decide)) | exact .inr (Nat.lt_add_of_pos_right (by decide)) | omega)
/-- what stands between two turns over the pairs -/
noncomputable def ZInv (h₀ : Heap) (L S l1 l2 : Nat) (m : Str → Option Value) (news : List (Addr × Obj)) (ks1 ks2 : List Int) (i : Nat) (h' : Heap) : Prop :=
  ∃ m' vs, Fr h₀ L h' m ∧ News h₀ L h' news ∧ h'.get? (S + 5) = some (lst vs) ∧ h'.Ns (S + 6) m' ∧ IntsAre vs (inter (ks1.take i) (ks2.take i)) ∧ vs.length = 2 * i ∧
    ZipSt h' (S + 4) (S + 2) (S + 3) ∧ (∀ T b, IsHeld h' (S + 4) (S + 2) (S + 3) T b → @LT.lt Nat _ (S + 6) T) ∧ IsPair h' (S + 2) (.ref S) (.ref (S + 1)) ∧ (∃ a b, IsPair h' (S + 3) a b) ∧ h'.IsListIter S l1 i ∧ h'.IsListIter (S + 1) l2 i
theorem zip_outer {h₀ : Heap} {L S l1 l2 : Nat} {m m' : Str → Option Value} {news : List (Addr × Obj)} {ks1 ks2 : List Int} {xs ys : List Value} {n1 n2 : Nat} {iter : Expr} {a b : Str} {pa p1 p2 pe : Pos} {scope : Scope} {cl : List (Str × Addr)} {pos : Pos} {env : Env} {R : Result → Shared → Prop} (hh : A.handled = none)
    (hkind : scope.kind = .function) (ha : scope.names.lookup a = some .local) (had : (a == ("__debug__" : Str)) = false) (hb : scope.names.lookup b = some .local) (hbd : (b == ("__debug__" : Str)) = false)
    (F : Fr h₀ L s.heap m) (N : News h₀ L s.heap news) (m1 : (l1, listOf xs.toArray n1) ∈ news) (m2 : (l2, listOf ys.toArray n2) ∈ news) (i1 : IntsAre xs ks1) (i2 : IntsAre ys ks2) (hlen : ks1.length = ks2.length) (hl3 : ks1.length < 100)
    (hn : ∀ p ∈ news, p.1 < S) (hL : L < S) (h0 : ∀ b, S ≤ b → h₀.get? b = none)
    (hz : IsZip s.heap (S + 4) (S + 2) (S + 3) .none) (hTI : IsPair s.heap (S + 2) (.ref S) (.ref (S + 1))) (hTO : IsPair s.heap (S + 3) .none .none) (g1 : s.heap.IsListIter S l1 0) (g2 : s.heap.IsListIter (S + 1) l2 0)
    (hD : s.heap.get? (S + 5) = some (lst [])) (hC : s.heap.Ns (S + 6) m')
    (hR : ∀ h' tk m' vs, Fr h₀ L h' m → News h₀ L h' news → h'.get? (S + 5) = some (lst vs) → h'.Ns (S + 6) m' → IntsAre vs (inter ks1 ks2) → R (.ok .next) { s with heap := h', toks := tk }) :
    codeAny (model prog w) A (.compLoop (cmp2 (.Name b pe) iter a b pa p1 p2 scope pos) 0 (.ref (S + 4)) (.ref (S + 5)) (compEnvC scope cl (S + 6) env)) R s := by
  have D := apartS (hn _ m1) (hn _ m2)
  have hlx : xs.length = ks1.length := i1.length
  have hly : ys.length = ks2.length := i2.length
  refine codeAny_loop rfl (fun k s' => ∃ i h' tk, s' = { s with heap := h', toks := tk } ∧ i ≤ ks1.length ∧ k = ks1.length - i ∧ ZInv h₀ L S l1 l2 m news ks1 ks2 i h') ?_ ks1.length
    ⟨0, s.heap, s.toks, rfl, Nat.zero_le _, rfl, m', [], F, N, hD, hC, .nil, rfl, .inl hz, fun T b q => ?_, hTI, ⟨_, _, hTO⟩, g1, g2⟩
  · rintro k _ ⟨i, h', tk, rfl, hi, rfl, m', vs, F', N', hD', hC', hvs, hvl, hz', hzs', hTI', hTO', g1', g2'⟩
    show wpAny _ A ((compTurn (cmp2 (.Name b pe) iter a b pa p1 p2 scope pos) 0 (.ref (S + 4)) (.ref (S + 5)) (compEnvC scope cl (S + 6) env)).onRaise (fun x => do noteFrame x (compEnvC scope cl (S + 6) env); theTreesLotGoes x)) _ _ _
    refine wpAny_noted ?_
    rw [turn0]
    refine wpAny_bind (wpAny_standAt (wpAny_bind ?_))
    have hClt : S + 6 < h'.objs.size := by obtain ⟨o, _, _, e, _⟩ := id hC'; exact Heap.lt_size e
    rcases Nat.lt_or_ge i ks1.length with hlt | hge
    · obtain ⟨x, t, hx⟩ : ∃ x t, xs.toArray[i]? = some (.int x t) ∧ ks1[i]? = some x := by
        obtain ⟨t, e⟩ := i1.get i _ (List.getElem?_eq_getElem hlt)
        exact ⟨_, t, by simpa using e, List.getElem?_eq_getElem hlt⟩
      obtain ⟨y, u, hy⟩ : ∃ y u, ys.toArray[i]? = some (.int y u) ∧ ks2[i]? = some y := by
        obtain ⟨t, e⟩ := i2.get i _ (List.getElem?_eq_getElem (hlen ▸ hlt))
        exact ⟨_, t, by simpa using e, List.getElem?_eq_getElem (hlen ▸ hlt)⟩
      refine next_zip_item D hz' hTI' hTO' (P := fun T => @LT.lt Nat _ (S + 6) T) (fun T q => ?_) hClt hzs' g1' g2' (news_list N' m1) (news_list N' m2) hx.1 hy.1 fun h₁ z₁ zs₁ to₁ a₁ b₁ t₁ sz₁ k₁ => ?_
      · refine ⟨?_, ?_, ?_⟩ <;> exact neA (by first | exact .inl (Nat.add_lt_add_left (by decide) _) | exact .inr (Nat.add_lt_add_left (by decide) _) | exact .inl (Nat.lt_add_of_pos_right (by decide)) | exact .inr (Nat.lt_add_of_pos_right (by decide)) | omega)
      have hC₁ : h₁.Ns (S + 6) m' := hC'.at' fun o e => k₁ _ o (neA (by first | exact .inl (Nat.add_lt_add_left (by decide) _) | exact .inr (Nat.add_lt_add_left (by decide) _) | exact .inl (Nat.lt_add_of_pos_right (by decide)) | exact .inr (Nat.lt_add_of_pos_right (by decide)) | omega)) (neA (by first | exact .inl (Nat.add_lt_add_left (by decide) _) | exact .inr (Nat.add_lt_add_left (by decide) _) | exact .inl (Nat.lt_add_of_pos_right (by decide)) | exact .inr (Nat.lt_add_of_pos_right (by decide)) | omega)) (neA (by first | exact .inl (Nat.add_lt_add_left (by decide) _) | exact .inr (Nat.add_lt_add_left (by decide) _) | exact .inl (Nat.lt_add_of_pos_right (by decide)) | exact .inr (Nat.lt_add_of_pos_right (by decide)) | omega)) (neA (by first | exact .inl (Nat.add_lt_add_left (by decide) _) | exact .inr (Nat.add_lt_add_left (by decide) _) | exact .inl (Nat.lt_add_of_pos_right (by decide)) | exact .inr (Nat.lt_add_of_pos_right (by decide)) | omega)) e
      refine wpAny_bind (wpAny_assign_Name (wpAny_storeName_local (lookup_relabel_local ha) hC₁ (fun h₂ hn₂ hs₂ => ?_) (by simp [compEnvC, relabel, hkind])))
      refine wpAny_bind (ldVarK (v := .ref h'.objs.size) hn₂ (by simp) ?_ (by simp [compEnvC, relabel, hkind]) (lookup_relabel_local ha) had)
      refine wpAny_bind (wpAny_standAt (wpAny_bind (wpAny_holding ?_)))
      have t₂ : IsTup h₂ h'.objs.size #[Value.int x t, .int y u] := ⟨_, (hs₂.2 _ (Nat.ne_of_gt hClt)).trans t₁, rfl, _, rfl⟩
      refine iter_tuple t₂ ?_
      refine wpAny_bind (wpAny_runOwn ?_)
      have hsz₂ : h₂.objs.size = h'.objs.size + 1 := by rw [hs₂.1, sz₁]
      have hTI₁ : ∀ c, c = S ∨ c = S + 1 ∨ c = S + 2 ∨ c = S + 3 ∨ c = S + 4 → c ≠ h₂.objs.size ∧ c ≠ S + 6 ∧ c ≠ S + 5 := fun c hc => by
        refine ⟨?_, ?_, ?_⟩ <;> omega
      have inner : ∀ s₃ : Shared, s₃.heap = h₂.push { cls := .type "tuple_iterator", data := .fields #[.ref h'.objs.size, .int 0 0] } → s₃ = { s with heap := s₃.heap, toks := s₃.toks } →
          codeAny (model prog w) A (.compLoop (cmp2 (.Name b pe) iter a b pa p1 p2 scope pos) 1 (.ref h₂.objs.size) (.ref (S + 5)) (compEnvC scope cl (S + 6) env))
            (fun r s' => match r with
              | .ok _ => ∃ h'' tk'', s' = { s with heap := h'', toks := tk'' } ∧ ZInv h₀ L S l1 l2 m news ks1 ks2 (i + 1) h''
              | .error _ => False) s₃ := by
        intro s₃ e₃ e₄
        have up : ∀ c o, h₂.get? c = some o → s₃.heap.get? c = some o := fun c o e => by rw [e₃]; exact Heap.get?_push_of_some _ e
        have c12 : ∀ c o, c ≠ S + 6 → h₁.get? c = some o → s₃.heap.get? c = some o := fun c o hc e => up _ _ ((hs₂.2 c hc).trans e)
        have hJ : IsTupIter s₃.heap h₂.objs.size h'.objs.size 0 := ⟨_, by rw [e₃]; exact Heap.get?_push_size _ rfl, rfl, rfl⟩
        have hT₃ : IsTup s₃.heap h'.objs.size #[Value.int x t, .int y u] := by obtain ⟨o, e, r⟩ := t₂; exact ⟨o, up _ _ e, r⟩
        have hC₃ := hn₂.at' fun o e => up _ o e
        have hD₃ : s₃.heap.get? (S + 5) = some (lst vs) := c12 _ _ (neA (by first | exact .inl (Nat.add_lt_add_left (by decide) _) | exact .inr (Nat.add_lt_add_left (by decide) _) | exact .inl (Nat.lt_add_of_pos_right (by decide)) | exact .inr (Nat.lt_add_of_pos_right (by decide)) | omega)) (k₁ _ _ (neA (by first | exact .inl (Nat.add_lt_add_left (by decide) _) | exact .inr (Nat.add_lt_add_left (by decide) _) | exact .inl (Nat.lt_add_of_pos_right (by decide)) | exact .inr (Nat.lt_add_of_pos_right (by decide)) | omega)) (neA (by first | exact .inl (Nat.add_lt_add_left (by decide) _) | exact .inr (Nat.add_lt_add_left (by decide) _) | exact .inl (Nat.lt_add_of_pos_right (by decide)) | exact .inr (Nat.lt_add_of_pos_right (by decide)) | omega)) (neA (by first | exact .inl (Nat.add_lt_add_left (by decide) _) | exact .inr (Nat.add_lt_add_left (by decide) _) | exact .inl (Nat.lt_add_of_pos_right (by decide)) | exact .inr (Nat.lt_add_of_pos_right (by decide)) | omega)) (neA (by first | exact .inl (Nat.add_lt_add_left (by decide) _) | exact .inr (Nat.add_lt_add_left (by decide) _) | exact .inl (Nat.lt_add_of_pos_right (by decide)) | exact .inr (Nat.lt_add_of_pos_right (by decide)) | omega)) hD')
        refine inner_loop hh hkind hb hbd hJ hT₃ hC₃ hD₃ (by rw [hvl]; omega) (neA (by first | exact .inl (Nat.add_lt_add_left (by decide) _) | exact .inr (Nat.add_lt_add_left (by decide) _) | exact .inl (Nat.lt_add_of_pos_right (by decide)) | exact .inr (Nat.lt_add_of_pos_right (by decide)) | omega)) (neA (by first | exact .inl (Nat.add_lt_add_left (by decide) _) | exact .inr (Nat.add_lt_add_left (by decide) _) | exact .inl (Nat.lt_add_of_pos_right (by decide)) | exact .inr (Nat.lt_add_of_pos_right (by decide)) | omega)) (neA (by first | exact .inl (Nat.add_lt_add_left (by decide) _) | exact .inr (Nat.add_lt_add_left (by decide) _) | exact .inl (Nat.lt_add_of_pos_right (by decide)) | exact .inr (Nat.lt_add_of_pos_right (by decide)) | omega)) (neA (by first | exact .inl (Nat.add_lt_add_left (by decide) _) | exact .inr (Nat.add_lt_add_left (by decide) _) | exact .inl (Nat.lt_add_of_pos_right (by decide)) | exact .inr (Nat.lt_add_of_pos_right (by decide)) | omega)) (neA (by first | exact .inl (Nat.add_lt_add_left (by decide) _) | exact .inr (Nat.add_lt_add_left (by decide) _) | exact .inl (Nat.lt_add_of_pos_right (by decide)) | exact .inr (Nat.lt_add_of_pos_right (by decide)) | omega)) (neA (by first | exact .inl (Nat.add_lt_add_left (by decide) _) | exact .inr (Nat.add_lt_add_left (by decide) _) | exact .inl (Nat.lt_add_of_pos_right (by decide)) | exact .inr (Nat.lt_add_of_pos_right (by decide)) | omega)) fun h'' tk'' m'' hk hn'' hD'' => ?_
        have st : ∀ c o, c ≠ h₂.objs.size ∧ c ≠ S + 6 ∧ c ≠ S + 5 → h₁.get? c = some o → h''.get? c = some o := fun c o hc e => hk c o hc.1 hc.2.1 hc.2.2 (c12 c o hc.2.1 e)
        have kb : ∀ c o, c < S → h'.get? c = some o → h''.get? c = some o := fun c o hc e => by
          have hc' : @LT.lt Nat _ c S := hc
          exact st c o ⟨neA (by first | exact .inl (Nat.add_lt_add_left (by decide) _) | exact .inr (Nat.add_lt_add_left (by decide) _) | exact .inl (Nat.lt_add_of_pos_right (by decide)) | exact .inr (Nat.lt_add_of_pos_right (by decide)) | omega), neA (by first | exact .inl (Nat.add_lt_add_left (by decide) _) | exact .inr (Nat.add_lt_add_left (by decide) _) | exact .inl (Nat.lt_add_of_pos_right (by decide)) | exact .inr (Nat.lt_add_of_pos_right (by decide)) | omega), neA (by first | exact .inl (Nat.add_lt_add_left (by decide) _) | exact .inr (Nat.add_lt_add_left (by decide) _) | exact .inl (Nat.lt_add_of_pos_right (by decide)) | exact .inr (Nat.lt_add_of_pos_right (by decide)) | omega)⟩ (k₁ c o (neA (by first | exact .inl (Nat.add_lt_add_left (by decide) _) | exact .inr (Nat.add_lt_add_left (by decide) _) | exact .inl (Nat.lt_add_of_pos_right (by decide)) | exact .inr (Nat.lt_add_of_pos_right (by decide)) | omega)) (neA (by first | exact .inl (Nat.add_lt_add_left (by decide) _) | exact .inr (Nat.add_lt_add_left (by decide) _) | exact .inl (Nat.lt_add_of_pos_right (by decide)) | exact .inr (Nat.lt_add_of_pos_right (by decide)) | omega)) (neA (by first | exact .inl (Nat.add_lt_add_left (by decide) _) | exact .inr (Nat.add_lt_add_left (by decide) _) | exact .inl (Nat.lt_add_of_pos_right (by decide)) | exact .inr (Nat.lt_add_of_pos_right (by decide)) | omega)) (neA (by first | exact .inl (Nat.add_lt_add_left (by decide) _) | exact .inr (Nat.add_lt_add_left (by decide) _) | exact .inl (Nat.lt_add_of_pos_right (by decide)) | exact .inr (Nat.lt_add_of_pos_right (by decide)) | omega)) e)
        refine ⟨h'', tk'', ?_, m'', vs ++ [Value.int x t, .int y u], fr_below F' hL h0 kb, news_below N' hn kb, hD'', hn'', ?_, ?_, ?_, ?_, ?_, ?_, ?_, ?_⟩
        · rw [e₄]
        · rw [inter_take i ks1 ks2 x y hx.2 hy.2]; exact ints_snoc2 hvs x y t u
        · rw [List.length_append, hvl]; simp only [List.length_cons, List.length_nil]; omega
        · rcases z₁ with z₁ | ⟨T, bb, o, z₁, oT⟩
          · exact .inl (st _ _ (hTI₁ _ (by first | exact .inl rfl | exact .inr (.inl rfl) | exact .inr (.inr (.inl rfl)) | exact .inr (.inr (.inr (.inl rfl))) | exact .inr (.inr (.inr (.inr rfl))) | omega)) z₁)
          · have q1 := zs₁ T bb z₁
            have q2 : @LT.lt Nat _ T h₁.objs.size := Heap.lt_size oT
            have q3 : @Eq Nat h₂.objs.size h₁.objs.size := hs₂.1
            exact .inr ⟨T, bb, o, st _ _ (hTI₁ _ (by first | exact .inl rfl | exact .inr (.inl rfl) | exact .inr (.inr (.inl rfl)) | exact .inr (.inr (.inr (.inl rfl))) | exact .inr (.inr (.inr (.inr rfl))) | omega)) z₁, st _ _ ⟨neA (by first | exact .inl (Nat.add_lt_add_left (by decide) _) | exact .inr (Nat.add_lt_add_left (by decide) _) | exact .inl (Nat.lt_add_of_pos_right (by decide)) | exact .inr (Nat.lt_add_of_pos_right (by decide)) | omega), neA (by first | exact .inl (Nat.add_lt_add_left (by decide) _) | exact .inr (Nat.add_lt_add_left (by decide) _) | exact .inl (Nat.lt_add_of_pos_right (by decide)) | exact .inr (Nat.lt_add_of_pos_right (by decide)) | omega), neA (by first | exact .inl (Nat.add_lt_add_left (by decide) _) | exact .inr (Nat.add_lt_add_left (by decide) _) | exact .inl (Nat.lt_add_of_pos_right (by decide)) | exact .inr (Nat.lt_add_of_pos_right (by decide)) | omega)⟩ oT⟩
        · intro T bb q
          rcases z₁ with z₁ | ⟨T', b', o, z₁, oT⟩
          · have := (st _ _ (hTI₁ _ (by first | exact .inl rfl | exact .inr (.inl rfl) | exact .inr (.inr (.inl rfl)) | exact .inr (.inr (.inr (.inl rfl))) | exact .inr (.inr (.inr (.inr rfl))) | omega)) z₁).symm.trans q
            simp [rawInt] at this
          · have e := (st _ _ (hTI₁ _ (by first | exact .inl rfl | exact .inr (.inl rfl) | exact .inr (.inr (.inl rfl)) | exact .inr (.inr (.inr (.inl rfl))) | exact .inr (.inr (.inr (.inr rfl))) | omega)) z₁).symm.trans q
            have e2 : (T' : Int) = (T : Int) := (by simpa [rawInt] using e : (T' : Int) = (T : Int) ∧ _).1
            have e3 : T' = T := by exact_mod_cast e2
            rw [← e3]; exact zs₁ T' b' z₁
        · exact st _ _ (hTI₁ _ (by first | exact .inl rfl | exact .inr (.inl rfl) | exact .inr (.inr (.inl rfl)) | exact .inr (.inr (.inr (.inl rfl))) | exact .inr (.inr (.inr (.inr rfl))) | omega)) (k₁ _ _ (neA (by first | exact .inl (Nat.add_lt_add_left (by decide) _) | exact .inr (Nat.add_lt_add_left (by decide) _) | exact .inl (Nat.lt_add_of_pos_right (by decide)) | exact .inr (Nat.lt_add_of_pos_right (by decide)) | omega)) (neA (by first | exact .inl (Nat.add_lt_add_left (by decide) _) | exact .inr (Nat.add_lt_add_left (by decide) _) | exact .inl (Nat.lt_add_of_pos_right (by decide)) | exact .inr (Nat.lt_add_of_pos_right (by decide)) | omega)) (neA (by first | exact .inl (Nat.add_lt_add_left (by decide) _) | exact .inr (Nat.add_lt_add_left (by decide) _) | exact .inl (Nat.lt_add_of_pos_right (by decide)) | exact .inr (Nat.lt_add_of_pos_right (by decide)) | omega)) (neA (by first | exact .inl (Nat.add_lt_add_left (by decide) _) | exact .inr (Nat.add_lt_add_left (by decide) _) | exact .inl (Nat.lt_add_of_pos_right (by decide)) | exact .inr (Nat.lt_add_of_pos_right (by decide)) | omega)) hTI')
        · obtain ⟨a', b', q⟩ := to₁
          exact ⟨a', b', st _ _ (hTI₁ _ (by first | exact .inl rfl | exact .inr (.inl rfl) | exact .inr (.inr (.inl rfl)) | exact .inr (.inr (.inr (.inl rfl))) | exact .inr (.inr (.inr (.inr rfl))) | omega)) q⟩
        · exact a₁.at fun o e => st _ o (hTI₁ _ (by first | exact .inl rfl | exact .inr (.inl rfl) | exact .inr (.inr (.inl rfl)) | exact .inr (.inr (.inr (.inl rfl))) | exact .inr (.inr (.inr (.inr rfl))) | omega)) e
        · exact b₁.at fun o e => st _ o (hTI₁ _ (by first | exact .inl rfl | exact .inr (.inl rfl) | exact .inr (.inr (.inl rfl)) | exact .inr (.inr (.inr (.inl rfl))) | exact .inr (.inr (.inr (.inr rfl))) | omega)) e
      have fin : ∀ s₃ : Shared, s₃.heap = h₂.push { cls := .type "tuple_iterator", data := .fields #[.ref h'.objs.size, .int 0 0] } → s₃ = { s with heap := s₃.heap, toks := s₃.toks } →
          codeAny (model prog w) A (.compLoop (cmp2 (.Name b pe) iter a b pa p1 p2 scope pos) 1 (.ref h₂.objs.size) (.ref (S + 5)) (compEnvC scope cl (S + 6) env))
            (fun r s' => match r with
              | .ok _ => wpAny (model prog w) A (again (.compLoop (cmp2 (.Name b pe) iter a b pa p1 p2 scope pos) 0 (.ref (S + 4)) (.ref (S + 5)) (compEnvC scope cl (S + 6) env))) (fun fin s' => match fin with
                | .done f => R (.ok f) s'
                | .again c' => c' = .compLoop (cmp2 (.Name b pe) iter a b pa p1 p2 scope pos) 0 (.ref (S + 4)) (.ref (S + 5)) (compEnvC scope cl (S + 6) env) ∧ ∃ m_1, m_1 < ks1.length - i ∧ ∃ i h' tk, s' = { s with heap := h', toks := tk } ∧ i ≤ ks1.length ∧ m_1 = ks1.length - i ∧ ZInv h₀ L S l1 l2 m news ks1 ks2 i h') (fun _ _ => False) s'
              | .error _ => False) s₃ := fun s₃ e₃ e₄ => codeAny_mono (inner s₃ e₃ e₄) fun r s' hr => by
        cases r with
        | ok f =>
          obtain ⟨h'', tk'', rfl, hZ⟩ := hr
          exact wpAny_pure ⟨rfl, ks1.length - (i + 1), by omega, i + 1, h'', tk'', rfl, hlt, rfl, hZ⟩
        | error e => exact hr
      have hTI3 : Heap.IsTupleIter (h₂.push { cls := .type "tuple_iterator", data := .fields #[.ref h'.objs.size, .int 0 0] }) h₂.objs.size h'.objs.size 0 := ⟨_, Heap.get?_push_size _ rfl, rfl, rfl⟩
      refine codeAny_mono (start1 (fin _ rfl rfl) (wpAny_pyIter_tupleiter hTI3 (fin _ rfl rfl))) fun r s' hr => ?_
      cases r with
      | ok f => exact wpAny_mono hr (fun _ _ q => q) (fun _ _ e => e.elim)
      | error e => exact hr.elim
    · obtain rfl : i = ks1.length := by omega
      refine next_zip_end hh D hz' hTI' hTO' g1' g2' (news_list N' m1) (news_list N' m2) (by simp [hlx]) fun h₁ k₁ => ?_
      refine wpAny_pure ?_
      have kb : ∀ c o, c < S → h'.get? c = some o → h₁.get? c = some o := fun c o hc e => k₁ c o (neA (by first | exact .inl (Nat.add_lt_add_left (by decide) _) | exact .inr (Nat.add_lt_add_left (by decide) _) | exact .inl (Nat.lt_add_of_pos_right (by decide)) | exact .inr (Nat.lt_add_of_pos_right (by decide)) | omega)) (neA (by first | exact .inl (Nat.add_lt_add_left (by decide) _) | exact .inr (Nat.add_lt_add_left (by decide) _) | exact .inl (Nat.lt_add_of_pos_right (by decide)) | exact .inr (Nat.lt_add_of_pos_right (by decide)) | omega)) (neA (by first | exact .inl (Nat.add_lt_add_left (by decide) _) | exact .inr (Nat.add_lt_add_left (by decide) _) | exact .inl (Nat.lt_add_of_pos_right (by decide)) | exact .inr (Nat.lt_add_of_pos_right (by decide)) | omega)) (neA (by first | exact .inl (Nat.add_lt_add_left (by decide) _) | exact .inr (Nat.add_lt_add_left (by decide) _) | exact .inl (Nat.lt_add_of_pos_right (by decide)) | exact .inr (Nat.lt_add_of_pos_right (by decide)) | omega)) e
      refine hR h₁ tk m' vs (fr_below F' hL h0 kb) (news_below N' hn kb) (k₁ _ _ (neA (by first | exact .inl (Nat.add_lt_add_left (by decide) _) | exact .inr (Nat.add_lt_add_left (by decide) _) | exact .inl (Nat.lt_add_of_pos_right (by decide)) | exact .inr (Nat.lt_add_of_pos_right (by decide)) | omega)) (neA (by first | exact .inl (Nat.add_lt_add_left (by decide) _) | exact .inr (Nat.add_lt_add_left (by decide) _) | exact .inl (Nat.lt_add_of_pos_right (by decide)) | exact .inr (Nat.lt_add_of_pos_right (by decide)) | omega)) (neA (by first | exact .inl (Nat.add_lt_add_left (by decide) _) | exact .inr (Nat.add_lt_add_left (by decide) _) | exact .inl (Nat.lt_add_of_pos_right (by decide)) | exact .inr (Nat.lt_add_of_pos_right (by decide)) | omega)) (neA (by first | exact .inl (Nat.add_lt_add_left (by decide) _) | exact .inr (Nat.add_lt_add_left (by decide) _) | exact .inl (Nat.lt_add_of_pos_right (by decide)) | exact .inr (Nat.lt_add_of_pos_right (by decide)) | omega)) hD') (hC'.at' fun o e => k₁ _ o (neA (by first | exact .inl (Nat.add_lt_add_left (by decide) _) | exact .inr (Nat.add_lt_add_left (by decide) _) | exact .inl (Nat.lt_add_of_pos_right (by decide)) | exact .inr (Nat.lt_add_of_pos_right (by decide)) | omega)) (neA (by first | exact .inl (Nat.add_lt_add_left (by decide) _) | exact .inr (Nat.add_lt_add_left (by decide) _) | exact .inl (Nat.lt_add_of_pos_right (by decide)) | exact .inr (Nat.lt_add_of_pos_right (by decide)) | omega)) (neA (by first | exact .inl (Nat.add_lt_add_left (by decide) _) | exact .inr (Nat.add_lt_add_left (by decide) _) | exact .inl (Nat.lt_add_of_pos_right (by decide)) | exact .inr (Nat.lt_add_of_pos_right (by decide)) | omega)) (neA (by first | exact .inl (Nat.add_lt_add_left (by decide) _) | exact .inr (Nat.add_lt_add_left (by decide) _) | exact .inl (Nat.lt_add_of_pos_right (by decide)) | exact .inr (Nat.lt_add_of_pos_right (by decide)) | omega)) e) ?_
      rwa [List.take_length, hlen, List.take_length] at hvs
  · exfalso
    have := hz.symm.trans q
    simp [rawInt] at this
/-- the same where the list goes to a name at once -/
noncomputable def ZipA (h₀ : Heap) (L : Addr) (y : Str) (Q : Flow → Shared → Prop) (xv : Value) (s₁ : Shared) : Prop :=
  ∃ m news ks1 ks2, ZipSrc h₀ L m news ks1 ks2 xv s₁ ∧ ks1.length = ks2.length ∧ ks1.length < 100 ∧
    ∀ D vs c h' tk, Fr h₀ L h' (fun z => if z = y then some (.ref D) else m z) → News h₀ L h' ((D, listOf vs.toArray c) :: news) → (∀ p ∈ news, p.1 < D) → IntsAre vs (inter ks1 ks2) → Q .next { s₁ with heap := h', toks := tk }
theorem zip_assign {h₀ : Heap} {L : Addr} {iter : Expr} {a b y : Str} {py pa p1 p2 pe : Pos} {scope : Scope} {cl : List (Str × Addr)} {pos spos : Pos} {env : Env} {Q : Flow → Shared → Prop} (hh : A.handled = none)
    (hsw : swapsWith (cmp2 (.Name b pe) iter a b pa p1 p2 scope pos) (some (.Name y py)) spos.line env = pure true) (hEL : env.locals = L) (hy : env.kindOf y = some .local) (hp : (env.scope.kind == .class || (env.scope.kind == .module && env.locals != env.globals)) = false)
    (hclos : closureFor scope env = pure cl) (hcell : ∀ y ∈ scope.names, y.2 ≠ .cell) (hkind : scope.kind = .function) (hnames : ∀ y ∈ scope.names, y.2 = .local → scope.names.lookup y.1 = some .local)
    (ha : scope.names.lookup a = some .local) (had : (a == ("__debug__" : Str)) = false) (hb : scope.names.lookup b = some .local) (hbd : (b == ("__debug__" : Str)) = false)
    (h : wpAny (model prog w) A (eval iter env) (ZipA h₀ L y Q) E s) (hs : ∀ x, foldedSetIterable iter env x = pure x := by intro _; rfl) :
    wpAny (model prog w) A (exec (.Assign [.Name y py] (cmp2 (.Name b pe) iter a b pa p1 p2 scope pos) spos) env) Q E s := by
  rw [exec_Assign_Name_used _ _ _ _ hsw]
  refine wpAny_bind (wpAny_standAt (wpAny_bind ?_))
  show wpAny _ A (do let _ ← comprehension (cmp2 (.Name b pe) iter a b pa p1 p2 scope pos) scope env _ (newList []) false (eval iter env) (some (assign (.Name y py) env))) _ _ s
  refine wpAny_bind (wpAny_mono (wpAny_comprehension_free (use := some (assign (.Name y py) env)) (Q := fun _ s' => Q .next s') rfl hs hclos hkind hnames (wpAny_mono h (fun xv s₁ h₁ => ?_) fun _ _ e => e)) (fun _ s' hq => wpAny_pure (wpAny_pure hq)) fun _ _ e => e)
  obtain ⟨m, news, ks1, ks2, ⟨S, l1, l2, xs, ys, n1, n2, rfl, F, N, m1, m2, i1, i2, hn, hL, hsz, h0, hz, hTI, hTO, g1, g2⟩, hlen, hl3, hQ⟩ := h₁
  refine wpAny_pyIter_zip hz ?_
  refine wpAny_newObj_type (wpAny_newFunctionEnv hcell (by intro y hy; simp at hy) (fun h₁ hns₁ hsb₁ => ?_) hkind)
  dsimp only at hns₁ hsb₁ ⊢
  generalize hH2 : s₁.heap.push { cls := .type "list", dict := none, data := .seq ([] : List Value).toArray } = H2 at hns₁ hsb₁ ⊢
  have hC : H2.objs.size = S + 6 := by rw [← hH2, Heap.size_push, hsz]
  rw [hC] at hns₁ hsb₁ ⊢
  rw [hsz]
  have old : ∀ c o, s₁.heap.get? c = some o → h₁.get? c = some o := fun c o e => by
    have hc : @LT.lt Nat _ c (S + 5) := hsz ▸ Heap.lt_size e
    exact hsb₁.extBut c o (neA (by first | exact .inl (Nat.add_lt_add_left (by decide) _) | exact .inr (Nat.add_lt_add_left (by decide) _) | exact .inl (Nat.lt_add_of_pos_right (by decide)) | exact .inr (Nat.lt_add_of_pos_right (by decide)) | omega)) (Heap.get?_push_of_some _ (hH2 ▸ Heap.get?_push_of_some _ e))
  have hacc : h₁.get? (S + 5) = some (lst []) := hsb₁.extBut _ _ (neA (by first | exact .inl (Nat.add_lt_add_left (by decide) _) | exact .inr (Nat.add_lt_add_left (by decide) _) | exact .inl (Nat.lt_add_of_pos_right (by decide)) | exact .inr (Nat.lt_add_of_pos_right (by decide)) | omega)) (Heap.get?_push_of_some _ (hH2 ▸ hsz ▸ Heap.get?_push_size _ rfl))
  have hL' : @LT.lt Nat _ L S := hL
  have key : ∀ s₃ : Shared, s₃ = { s₁ with heap := h₁, toks := s₃.toks } → codeAny (model prog w) A (.compLoop (cmp2 (.Name b pe) iter a b pa p1 p2 scope pos) 0 (.ref (S + 4)) (.ref (S + 5)) (compEnvC scope cl (S + 6) env)) (compPost (model prog w) A E (some (assign (.Name y py) env)) (fun _ s' => Q .next s') (.ref (S + 5)) (S + 6)) s₃ := by
    intro s₃ e₃
    rw [e₃]
    refine zip_outer hh hkind ha had hb hbd (F.keeps old) (N.grown old) m1 m2 i1 i2 hlen hl3 hn hL h0 (old _ _ hz) (old _ _ hTI) (old _ _ hTO) (g1.at fun o e => old _ o e) (g2.at fun o e => old _ o e) hacc hns₁ fun h' tk m' vs F' N' hD' hC' hv => ?_
    show wpAny _ A (assign (.Name y py) env (.ref (S + 5))) _ _ _
    refine wpAny_assign_Name (wpAny_storeName_local hy (hEL ▸ F'.ns) (fun h₂ hn₂ hs₂ => ?_) hp)
    rw [hEL] at hn₂ hs₂
    refine ⟨m', hC'.sameBut hs₂ (neA (by first | exact .inl (Nat.add_lt_add_left (by decide) _) | exact .inr (Nat.add_lt_add_left (by decide) _) | exact .inl (Nat.lt_add_of_pos_right (by decide)) | exact .inr (Nat.lt_add_of_pos_right (by decide)) | omega)), fun h'' hs'' => ?_⟩
    have up : ∀ c o, @LT.lt Nat _ c S ∨ c = S + 5 → c ≠ L → h'.get? c = some o → h''.get? c = some o := fun c o hc hcL e =>
      hs''.extBut c o (by rcases hc with hc | hc; exact neA (by first | exact .inl (Nat.add_lt_add_left (by decide) _) | exact .inr (Nat.add_lt_add_left (by decide) _) | exact .inl (Nat.lt_add_of_pos_right (by decide)) | exact .inr (Nat.lt_add_of_pos_right (by decide)) | omega); rw [hc]; exact neA (by first | exact .inl (Nat.add_lt_add_left (by decide) _) | exact .inr (Nat.add_lt_add_left (by decide) _) | exact .inl (Nat.lt_add_of_pos_right (by decide)) | exact .inr (Nat.lt_add_of_pos_right (by decide)) | omega)) (hs₂.extBut c o hcL e)
    have F'' : Fr h₀ L h'' (fun z => if z = y then some (.ref (S + 5)) else m z) := ⟨hn₂.sameBut hs'' (neA (by first | exact .inl (Nat.add_lt_add_left (by decide) _) | exact .inr (Nat.add_lt_add_left (by decide) _) | exact .inl (Nat.lt_add_of_pos_right (by decide)) | exact .inr (Nat.lt_add_of_pos_right (by decide)) | omega)), fun c o e => by
      have hc : @LT.lt Nat _ c L := Nat.lt_of_lt_of_le (Heap.lt_size e) F.above
      exact up c o (.inl (by omega)) (neA (by first | exact .inl (Nat.add_lt_add_left (by decide) _) | exact .inr (Nat.add_lt_add_left (by decide) _) | exact .inl (Nat.lt_add_of_pos_right (by decide)) | exact .inr (Nat.lt_add_of_pos_right (by decide)) | omega)) (F'.keep c o e), F.above⟩
    refine hQ _ vs vs.length h'' _ F'' (fun p hp => ?_) (fun p hp => Nat.lt_trans (hn p hp) (by show @LT.lt Nat _ S (S + 5); omega)) hv
    rcases List.mem_cons.mp hp with rfl | hp
    · exact ⟨up _ _ (.inr rfl) (neA (by first | exact .inl (Nat.add_lt_add_left (by decide) _) | exact .inr (Nat.add_lt_add_left (by decide) _) | exact .inl (Nat.lt_add_of_pos_right (by decide)) | exact .inr (Nat.lt_add_of_pos_right (by decide)) | omega)) hD', neA (by first | exact .inl (Nat.add_lt_add_left (by decide) _) | exact .inr (Nat.add_lt_add_left (by decide) _) | exact .inl (Nat.lt_add_of_pos_right (by decide)) | exact .inr (Nat.lt_add_of_pos_right (by decide)) | omega), h0 _ (Nat.le_add_right S 5)⟩
    · exact ⟨up _ _ (.inl (hn p hp)) (N p hp).2.1 (N' p hp).1, (N p hp).2⟩
  refine codeAny_compStart_list (key _ rfl) (wpAny_pyIter_zip (z := S + 4) (TI := S + 2) (TO := S + 3) (f0 := .none) (old _ _ hz) (key _ rfl))
end
end Mine
end
section
open PySem PySem.W PyProof.Rows PySem.Calls
set_option Elab.async false
set_option compiler.extract_closed false
namespace Mine
set_option maxRecDepth 100000
noncomputable abbrev lw2 (sc gv : Value) (oth : Int) (t2 : Tok) (lk : Int) (t3 : Tok) (few : Int) (t4 : Tok) (more : Int) (t5 : Tok) (D1 : Addr) (rk : Int) (t7 : Tok) : Lw :=
  { script := some sc, ground := some gv, other := some (.int oth t2), look := some (.int lk t3), few := some (.int few t4), more := some (.int more t5), row := some (.ref D1), rank := some (.int rk t7) }
theorem gen2 {g h : Heap} {L D1 : Addr} {m : Str → Option Value} {sc : Value} {k1 k2 k3 rk : Int} {t1 t2 t3 t4 t5 t7 tp : Tok} {o : Obj} {vr : List Value} (F : Fr g L h m)
    (e : m = (lw2 sc (.int k1 t1) (1355 + k2) t2 (2026 + k3) t3 (Int.fmod (1355 + k2) 60) t4 (Int.fmod (Int.fdiv (1355 + k2) 60) 60) t5 D1 rk t7).m)
    (d1 : o.data = Data.cell (some (Value.int (3 + 2 * Int.fmod k1 3) tp))) (hr : IntsAre vr (lucs (rowP (k1.fdiv 3) (3 + 2 * Int.fmod k1 3)) (rowQ (k1.fdiv 3) (3 + 2 * Int.fmod k1 3)) (Int.fmod (1355 + k2) 60 + Int.fmod (Int.fdiv (1355 + k2) 60) 60 + 9).toNat)) :
    ∃ (gr oth lk pr few more : Int) (gv : Value) (t2 t3 t4 t5 t7 tp : Tok), (pr = 3 ∨ pr = 5 ∨ pr = 7) ∧ (0 ≤ few ∧ few < 60) ∧ (0 ≤ more ∧ more < 60) ∧ Fr g L h (lw2 sc gv oth t2 lk t3 few t4 more t5 D1 rk t7).m ∧ o.data = Data.cell (some (Value.int pr tp)) ∧
      IntsAre vr (lucs (rowP gr pr) (rowQ gr pr) (few + more + 9).toNat) :=
  ⟨_, _, _, _, _, _, _, _, _, _, _, _, _, prime_is k1, fm60 _, fm60 _, e ▸ F, d1, hr⟩
section
variable {prog : Program} {w : World} {A : Around} {E : Value → Shared → Prop} {s : Shared} {h₀ : Heap} {L D : Addr} {m : Str → Option Value} {news : List (Addr × Obj)} {c : Nat}
theorem itemI {value slice : Expr} {vs : List Value} {ns : List Int} {k x : Int} {u : Tok} {R : Value → Shared → Prop} (N : News h₀ L s.heap news) (hm : (D, listOf vs.toArray c) ∈ news) (hi : IntsAre vs ns) (hk : 0 ≤ k) (hn2 : ns.length < 1000) (hx : ns[k.toNat]? = some x)
    (h : ∀ t, R (.int x t) s)
    (hs : subscripted slice false (.ref D) (.int k u) = operate [.ref D, .int k u] (getItem (.ref D) (.int k u)) := by with_unfolding_all rfl) (hg : ∀ r, letTemporaryGo value (.ref D) r = pure () := by intro _; with_unfolding_all rfl) :
    wpAny (model prog w) A (subscriptTail value slice (.ref D) (.int k u)) R E s := by
  obtain ⟨t, hx'⟩ := hi.get k.toNat _ hx
  have hlt : k.toNat < ns.length := (List.getElem?_eq_some_iff.mp hx).1
  exact item_list (news_list N hm) hk (by omega) (by simpa using hx') (h t) hs hg
end
/-- the search for the rank: what stands between the turns -/
noncomputable def RkI (g : Heap) (L : Addr) (s₀ : Shared) (own : List (Addr × Obj)) (P Q pr : Int) (R : Nat) (mf : Int → Tok → Str → Option Value) (k : Nat) (s : Shared) : Prop :=
  ∃ (r : Nat) (h : Heap) (tk : Nat) (t : Tok), s = { s₀ with heap := h, toks := tk } ∧ k + r = R ∧ 1 ≤ r ∧ Fr g L h (mf r t) ∧ News g L h own
section
variable {prog : Program} {w : World} {A : Around} {E : Value → Shared → Prop} {s : Shared} {h₀ : Heap} {L D : Addr} {m : Str → Option Value} {news : List (Addr × Obj)}
theorem sub3 {value slice : Expr} {a b c : Addr} {n : Nat} {j : Int} {u : Tok} {R : Value → Shared → Prop} (N : News h₀ L s.heap news) (hm : (D, listOf #[Value.ref a, Value.ref b, Value.ref c] n) ∈ news)
    (h : ∀ x, (Int.fmod j 3 = 0 ∧ x = a) ∨ (Int.fmod j 3 = 1 ∧ x = b) ∨ (Int.fmod j 3 = 2 ∧ x = c) → R (.ref x) s)
    (hs : subscripted slice false (.ref D) (.int (Int.fmod j 3) u) = operate [.ref D, .int (Int.fmod j 3) u] (getItem (.ref D) (.int (Int.fmod j 3) u)) := by with_unfolding_all rfl) :
    wpAny (model prog w) A (subscriptTail value slice (.ref D) (.int (Int.fmod j 3) u)) R E s := by
  have h1 := Int.fmod_nonneg_of_pos j (show (0:Int) < 3 by decide)
  have h2 := Int.fmod_lt_of_pos j (show (0:Int) < 3 by decide)
  have h3 : Int.fmod j 3 = 0 ∨ Int.fmod j 3 = 1 ∨ Int.fmod j 3 = 2 := by omega
  rcases h3 with e | e | e
  · exact tail_any (news_list N hm).typeIs slot_list_getitem.lookup (wpAny_getItem_list (news_list N hm) h1 (by omega) (x := .ref a) (by rw [e]; rfl) (h a (.inl ⟨e, rfl⟩))) hs
  · exact tail_any (news_list N hm).typeIs slot_list_getitem.lookup (wpAny_getItem_list (news_list N hm) h1 (by omega) (x := .ref b) (by rw [e]; rfl) (h b (.inr (.inl ⟨e, rfl⟩)))) hs
  · exact tail_any (news_list N hm).typeIs slot_list_getitem.lookup (wpAny_getItem_list (news_list N hm) h1 (by omega) (x := .ref c) (by rw [e]; rfl) (h c (.inr (.inr ⟨e, rfl⟩)))) hs
theorem ifexp_K {env : Env} {x : Str} {px p1 p2 pos : Pos} {a b : Int} {n1 n2 : Nat} {k : Int} {Q : Value → Shared → Prop}
    (hx : wpAny (model prog w) A (isTrue (.Name x px) env (eval (.Name x px) env)) (fun y s' => y = (k != 0) ∧ s' = s) E s)
    (h : ∀ t tk, Q (.int (if k = 0 then b else a) t) { s with toks := tk }) :
    wpAny (model prog w) A (eval (.IfExp (.Name x px) (.Constant (.int a) n1 p1) (.Constant (.int b) n2 p2) pos) env) Q E s := by
  refine wpAny_IfExp (wpAny_mono hx (fun y s' hy => ?_) fun _ _ e => e)
  obtain ⟨rfl, rfl⟩ := hy
  by_cases e : k = 0
  · subst e
    have h' := h
    simp only [if_true] at h'
    refine (if_neg (by decide)).mpr ?_
    exact wpAny_Constant_int (h' _ _)
  · have h' := h
    simp only [if_neg e] at h'
    refine (if_pos (by simpa using e)).mpr ?_
    exact wpAny_Constant_int (h' _ _)
end
/-- the ruler and the number of places -/
noncomputable def rulZ (kd rk pr : Int) : List Int := if kd = 0 then [rk, pr, 0, 9] else if kd = 1 then [rk, pr, pr, pr, pr] else [rk, pr, pr, pr, pr, 127, 2]
noncomputable abbrev lw3 (v : Lw) (DN dS : Addr) (kd : Int) (t : Tok) : Lw := { v with names := some (.ref DN), sizes := some (.ref dS), kind := some (.int kd t) }
theorem gen4 {g h : Heap} {L x lA dC lq dB2 dB lR dS d4 l3 l4 DN D1 a3 a2 a1 a0 : Addr} {o1 o2 o3 o4 o5 o6 oN oR b3 b2 b1 b0 : Obj} {v : Lw} {rk pr : Int} {u1 u2 u3 u4 u5 u6 p1 p2 p3 p4 p5 c1 c2 c3 c4 c5 c6 c7 r1 r2 r3 r4 tn : Tok} {t : Tok} {oth lk : Int} {m : Str → Option Value}
    (F : Fr g L h m) (e : m = (lw3 v DN dS (Int.fmod oth 3) t).m) (hno : b2.data = Data.cell (some (Value.int (7 + Int.fmod lk 41) tn)))
    (N : News g L h [(lA, o1), (dC, listOf #[.int rk c1, .int pr c2, .int pr c3, .int pr c4, .int pr c5, .int 127 c6, .int 2 c7] 0), (lq, o2), (dB2, o3), (dB, listOf #[.int rk p1, .int pr p2, .int pr p3, .int pr p4, .int pr p5] 0),
      (lR, listOf #[.int rk r1, .int pr r2, .int 0 r3, .int 9 r4] 0), (dS, listOf #[.int rk u1, .int pr u2, .int pr u3, .int pr u4, .int pr u5, .int pr u6] 0), (d4, o4), (l3, o5), (l4, o6), (DN, oN), (D1, oR), (a3, b3), (a2, b2), (a1, b1), (a0, b0)])
    (hx : (Int.fmod oth 3 = 0 ∧ x = lR) ∨ (Int.fmod oth 3 = 1 ∧ x = dB) ∨ (Int.fmod oth 3 = 2 ∧ x = dC))
    (ho : @LT.lt Nat _ dS lR ∧ @LT.lt Nat _ dS dB ∧ @LT.lt Nat _ dS dC) :
    ∃ (kd no : Int) (rv sv : List Value) (t tn : Tok), (kd = 0 ∨ kd = 1 ∨ kd = 2) ∧ (7 ≤ no ∧ no < 48) ∧ IntsAre rv (rulZ kd rk pr) ∧ IntsAre sv [rk, pr, pr, pr, pr, pr] ∧ @LT.lt Nat _ dS x ∧ b2.data = Data.cell (some (Value.int no tn)) ∧ Fr g L h (lw3 v DN dS kd t).m ∧
      News g L h [(x, listOf rv.toArray 0), (dS, listOf sv.toArray 0), (DN, oN), (D1, oR), (a3, b3), (a2, b2), (a1, b1), (a0, b0)] := by
  have h1 := Int.fmod_nonneg_of_pos oth (show (0:Int) < 3 by decide)
  have h2 := Int.fmod_lt_of_pos oth (show (0:Int) < 3 by decide)
  have h3 := Int.fmod_nonneg_of_pos lk (show (0:Int) < 41 by decide)
  have h4 := Int.fmod_lt_of_pos lk (show (0:Int) < 41 by decide)
  have hs : IntsAre [Value.int rk u1, .int pr u2, .int pr u3, .int pr u4, .int pr u5, .int pr u6] [rk, pr, pr, pr, pr, pr] := .cons _ _ (.cons _ _ (.cons _ _ (.cons _ _ (.cons _ _ (.cons _ _ .nil)))))
  rcases hx with ⟨hk, rfl⟩ | ⟨hk, rfl⟩ | ⟨hk, rfl⟩
  · refine ⟨Int.fmod oth 3, _, [.int rk r1, .int pr r2, .int 0 r3, .int 9 r4], _, _, _, by omega, by omega, ?_, hs, ho.1, hno, e ▸ F, sub_news N ?_⟩
    · rw [rulZ, if_pos hk]; exact .cons _ _ (.cons _ _ (.cons _ _ (.cons _ _ .nil)))
    · (repeat (first | exact List.forall_mem_nil _ | (refine List.forall_mem_cons.mpr ⟨?km, ?_⟩; (case km => k_mem))))
  · refine ⟨Int.fmod oth 3, _, [.int rk p1, .int pr p2, .int pr p3, .int pr p4, .int pr p5], _, _, _, by omega, by omega, ?_, hs, ho.2.1, hno, e ▸ F, sub_news N ?_⟩
    · rw [rulZ, if_neg (by omega), if_pos hk]; exact .cons _ _ (.cons _ _ (.cons _ _ (.cons _ _ (.cons _ _ .nil))))
    · (repeat (first | exact List.forall_mem_nil _ | (refine List.forall_mem_cons.mpr ⟨?km, ?_⟩; (case km => k_mem))))
  · refine ⟨Int.fmod oth 3, _, [.int rk c1, .int pr c2, .int pr c3, .int pr c4, .int pr c5, .int 127 c6, .int 2 c7], _, _, _, by omega, by omega, ?_, hs, ho.2.2, hno, e ▸ F, sub_news N ?_⟩
    · rw [rulZ, if_neg (by omega), if_neg (by omega)]; exact .cons _ _ (.cons _ _ (.cons _ _ (.cons _ _ (.cons _ _ (.cons _ _ (.cons _ _ .nil))))))
    · (repeat (first | exact List.forall_mem_nil _ | (refine List.forall_mem_cons.mpr ⟨?km, ?_⟩; (case km => k_mem))))
end Mine
end
section
open PySem PySem.W PyProof.Rows
set_option Elab.async false
set_option compiler.extract_closed false
namespace Mine
set_option maxRecDepth 100000
/-- a sign that a reader takes as it stands -/
noncomputable def Plain (c : Nat) : Prop := wsC c = false ∧ c ≠ 34 ∧ c ≠ 92
theorem rdC_plain : ∀ (ys : List Nat) (acc : List Nat) (wh : Nat) (r : List Nat), (∀ c ∈ ys, Plain c) → wsC wh = true → RdC acc (ys ++ wh :: r) (acc ++ ys) r
  | [], acc, wh, r, _, hw => by simpa using RdC.fin acc wh r hw
  | c :: ys, acc, wh, r, h, hw => by
    have hc := h c (.head _)
    have := rdC_plain ys (acc ++ [c]) wh r (fun d hd => h d (.tail _ hd)) hw
    rw [List.append_assoc] at this
    exact RdC.other acc c _ _ _ hc.1 hc.2.2 this
theorem rdC_slow : ∀ (ys : List Nat) (acc : List Nat) (wh : Nat) (r : List Nat), wsC wh = true → RdC acc (ys.flatMap (fun c => [92, c]) ++ wh :: r) (acc ++ ys) r
  | [], acc, wh, r, hw => by simpa using RdC.fin acc wh r hw
  | c :: ys, acc, wh, r, hw => by
    have := rdC_slow ys (acc ++ [c]) wh r hw
    rw [List.append_assoc] at this
    exact RdC.esc acc c _ _ _ this
theorem rdB_plain : ∀ (ys : List Nat) (acc : List Nat) (r : List Nat), (∀ c ∈ ys, Plain c) → RdB acc (ys ++ 34 :: r) (acc ++ ys) r
  | [], acc, r, _ => by simpa using RdB.fin acc r
  | c :: ys, acc, r, h => by
    have hc := h c (.head _)
    have := rdB_plain ys (acc ++ [c]) r (fun d hd => h d (.tail _ hd))
    rw [List.append_assoc] at this
    exact RdB.other acc c _ _ _ hc.2.1 hc.2.2 this
theorem rdB_slow : ∀ (ys : List Nat) (acc : List Nat) (r : List Nat), RdB acc (ys.flatMap (fun c => [92, c]) ++ 34 :: r) (acc ++ ys) r
  | [], acc, r => by simpa using RdB.fin acc r
  | c :: ys, acc, r => by
    have := rdB_slow ys (acc ++ [c]) r
    rw [List.append_assoc] at this
    exact RdB.esc acc c _ _ _ this
theorem form0 {ys : List Nat} {wh : Nat} {r : List Nat} (hy : ys ≠ []) (h : ∀ c ∈ ys, Plain c) (hw : wsC wh = true) : RdA (ys ++ wh :: r) ys r := by
  cases ys with
  | nil => exact absurd rfl hy
  | cons c ys =>
    have hc := h c (.head _)
    exact RdA.other c _ _ _ hc.1 hc.2.1 hc.2.2 (rdC_plain ys [c] wh r (fun d hd => h d (.tail _ hd)) hw)
theorem form1 {ys : List Nat} {wh : Nat} {r : List Nat} (hy : ys ≠ []) (hw : wsC wh = true) : RdA (ys.flatMap (fun c => [92, c]) ++ wh :: r) ys r := by
  cases ys with
  | nil => exact absurd rfl hy
  | cons c ys => exact RdA.esc c _ _ _ (rdC_slow ys [c] wh r hw)
theorem form2 {ys : List Nat} {wh : Nat} {r : List Nat} (h : ∀ c ∈ ys, Plain c) (hw : wsC wh = true) : RdA (wh :: 34 :: (ys ++ 34 :: r)) ys r := .ws wh _ _ _ hw (.quot _ _ _ (rdB_plain ys [] r h))
theorem form3 {ys : List Nat} {wh : Nat} {r : List Nat} (hw : wsC wh = true) : RdA (wh :: 34 :: (ys.flatMap (fun c => [92, c]) ++ 34 :: r)) ys r := .ws wh _ _ _ hw (.quot _ _ _ (rdB_slow ys [] r))
/-- a text is read back as these figures -/
noncomputable def RdL (nought : Int) : List Int → List Nat → Prop
  | [], cs => cs = []
  | x :: r, cs => ∃ tok rest, RdA cs tok rest ∧ exOr ⟨tok.toArray⟩ nought = nought + x ∧ RdL nought r rest
theorem names_plain : (namesX.all fun y => y.cps.toList.all fun c => wsC c == false && c != 34 && c != 92) = true := by decide +kernel
theorem names_full : (namesX.all fun y => y.cps.size != 0) = true := by decide +kernel
theorem names_ops : (List.range 48).all (fun k => (exL.find? (fun e => e.1 == namesX.getD k ⟨#[]⟩)).map (·.2) == some ((k : Int) + 7)) = true := by decide +kernel
theorem ops_none : ([Str.ofString "", Str.ofString "\n", Str.ofString "\t", ⟨#[13]⟩, Str.ofString " ", Str.ofString "\"", Str.ofString "a\""].all fun y => (exL.find? fun e => e.1 == y).isNone) = true := by decide +kernel
theorem whZ_is (st : Int) : ∃ c, whZ st = ⟨#[c]⟩ ∧ wsC c = true ∧ (c = 10 ∨ c = 9 ∨ c = 13 ∨ c = 32) := by
  have h1 := Int.fmod_nonneg_of_pos st (show (0:Int) < 4 by decide)
  have h2 := Int.fmod_lt_of_pos st (show (0:Int) < 4 by decide)
  have h3 : Int.fmod st 4 = 0 ∨ Int.fmod st 4 = 1 ∨ Int.fmod st 4 = 2 ∨ Int.fmod st 4 = 3 := by omega
  unfold whZ
  rcases h3 with e | e | e | e <;> rw [e]
  · exact ⟨10, by decide +kernel, rfl, .inl rfl⟩
  · exact ⟨9, by decide +kernel, rfl, .inr (.inl rfl)⟩
  · exact ⟨13, by decide +kernel, rfl, .inr (.inr (.inl rfl))⟩
  · exact ⟨32, by decide +kernel, rfl, .inr (.inr (.inr rfl))⟩
theorem str_eta (y : Str) : (⟨y.cps.toList.toArray⟩ : Str) = y := by cases y; simp
theorem nm_facts {k : Int} (h0 : 0 ≤ k) (h1 : k < 48) : (nm k).cps.toList ≠ [] ∧ (∀ c ∈ (nm k).cps.toList, Plain c) ∧ (nm k).cps.size ≤ 3 ∧ ∀ d, exOr (nm k) d = k + 7 := by
  have hk : k.toNat < namesX.length := by rw [namesX_len]; omega
  have hx : namesX[k.toNat]? = some (nm k) := by
    unfold nm
    rw [List.getD_eq_getElem?_getD, List.getElem?_eq_getElem hk]; rfl
  have hm := List.mem_of_getElem? hx
  refine ⟨?_, ?_, nm_small _ hm, fun d => ?_⟩
  · have := List.all_eq_true.mp names_full _ hm
    intro e
    have e2 := congrArg List.length e
    simp only [Array.length_toList, List.length_nil] at e2
    rw [e2] at this; cases this
  · have := List.all_eq_true.mp names_plain _ hm
    intro c hc
    have := List.all_eq_true.mp this c hc
    simp only [Bool.and_eq_true, beq_iff_eq, bne_iff_ne] at this
    exact ⟨this.1.1, this.1.2, this.2⟩
  · have := List.all_eq_true.mp names_ops k.toNat (List.mem_range.mpr (by omega))
    have e : namesX.getD k.toNat ⟨#[]⟩ = nm k := rfl
    rw [e] at this
    have h2 := eq_of_beq this
    unfold exOr
    cases q : exL.find? (fun e => e.1 == nm k) with
    | none => rw [q] at h2; cases h2
    | some v =>
      rw [q] at h2
      simp only [Option.map_some, Option.some.injEq] at h2
      show v.2 = k + 7
      rw [h2]; omega
theorem no_op {y : Str} (h : y ∈ [Str.ofString "", Str.ofString "\n", Str.ofString "\t", ⟨#[13]⟩, Str.ofString " ", Str.ofString "\"", Str.ofString "a\""]) (d : Int) : exOr y d = d := by
  have := List.all_eq_true.mp ops_none y h
  unfold exOr
  cases q : exL.find? (fun e => e.1 == y) with
  | none => rfl
  | some v => rw [q] at this; cases this
theorem no_ws {c : Nat} (h : c = 10 ∨ c = 9 ∨ c = 13 ∨ c = 32) (d : Int) : exOr ⟨#[c]⟩ d = d := by
  refine no_op ?_ d
  rcases h with rfl | rfl | rfl | rfl
  · exact .tail _ (.head _)
  · exact .tail _ (.tail _ (.head _))
  · exact .tail _ (.tail _ (.tail _ (.head _)))
  · exact .tail _ (.tail _ (.tail _ (.tail _ (.head _))))
theorem q_cps : (Str.ofString "\"").cps.toList = [34] := by decide +kernel
/-- any of the four forms is read as the name -/
theorem forms4_rd {wh y : Str} {c : Nat} (hw : wh = ⟨#[c]⟩) (hc : wsC c = true) (hne : y.cps.toList ≠ []) (hp : ∀ d ∈ y.cps.toList, Plain d) (hs : y.cps.size ≤ 3) (r : List Nat) : ∀ v ∈ forms4 wh y, RdA (v.cps.toList ++ r) y.cps.toList r ∧ v.cps.size ≤ 16 := by
  subst hw
  intro v hv
  have hz := slowS_size y
  simp only [forms4, List.mem_cons, List.not_mem_nil, or_false] at hv
  rcases hv with rfl | rfl | rfl | rfl
  · refine ⟨?_, ?_⟩
    · have := form0 (r := r) hne hp hc
      simpa [app_cps] using this
    · simp only [app_cps, Array.size_append]; show _ + 1 ≤ 16; omega
  · refine ⟨?_, ?_⟩
    · have := form1 (r := r) hne hc
      rw [← slowS_cps] at this
      simpa [app_cps] using this
    · simp only [app_cps, Array.size_append]; show _ + 1 ≤ 16; omega
  · refine ⟨?_, ?_⟩
    · have := form2 (r := r) hp hc
      simpa [app_cps, q_cps] using this
    · simp only [app_cps, Array.size_append, lsz1]; show 1 + 1 + _ + 1 ≤ 16; omega
  · refine ⟨?_, ?_⟩
    · have := form3 (ys := y.cps.toList) (r := r) hc
      rw [← slowS_cps] at this
      simpa [app_cps, q_cps] using this
    · simp only [app_cps, Array.size_append, lsz1]; show 1 + 1 + _ + 1 ≤ 16; omega
theorem e_cps : (Str.ofString "\"\"").cps.toList = [34, 34] := by decide +kernel
theorem f_cps : (Str.ofString "\"\\\"\"").cps.toList = [34, 92, 34, 34] := by decide +kernel
theorem g_cps : (Str.ofString "a\"").cps.toList = [97, 34] := by decide +kernel
theorem h_cps : (Str.ofString "\\").cps.toList = [92] := by decide +kernel
theorem word_rd {nought st x : Int} (hn : 7 ≤ nought ∧ nought < 48) (hx : 0 ≤ x ∧ x < 8) (r : List Nat) : ∃ tok, RdA ((wordZ nought st x).cps.toList ++ r) tok r ∧ exOr ⟨tok.toArray⟩ nought = nought + x ∧ (wordZ nought st x).cps.size ≤ 16 := by
  obtain ⟨c, hw, hc, hc4⟩ := whZ_is st
  obtain ⟨n1, n2, n3, n4⟩ := nm_facts (k := nought - 7 + x) (by omega) (by omega)
  have key : ∀ v ∈ forms4 (whZ st) (nm (nought - 7 + x)), ∃ tok, RdA (v.cps.toList ++ r) tok r ∧ exOr ⟨tok.toArray⟩ nought = nought + x ∧ v.cps.size ≤ 16 := fun v hv => by
    have := forms4_rd hw hc n1 n2 n3 r v hv
    exact ⟨_, this.1, by rw [str_eta, n4]; omega, this.2⟩
  unfold wordZ
  by_cases e : x = 0
  · subst e
    rw [if_pos rfl]
    have h1 := Int.fmod_nonneg_of_pos (Int.fdiv st 4) (show (0:Int) < 9 by decide)
    have h2 := Int.fmod_lt_of_pos (Int.fdiv st 4) (show (0:Int) < 9 by decide)
    generalize hj : (Int.fmod (Int.fdiv st 4) 9).toNat = j
    have hj9 : j < 9 := by omega
    have hz : ∀ (tok : List Nat) (y : Str), (⟨tok.toArray⟩ : Str) = y → y ∈ [Str.ofString "", Str.ofString "\n", Str.ofString "\t", ⟨#[13]⟩, Str.ofString " ", Str.ofString "\"", Str.ofString "a\""] → exOr ⟨tok.toArray⟩ nought = nought + 0 := fun tok y e hy => by rw [e, no_op hy]; omega
    match j, hj9 with
    | 0, _ => exact key _ (.head _)
    | 1, _ => exact key _ (.tail _ (.head _))
    | 2, _ => exact key _ (.tail _ (.tail _ (.head _)))
    | 3, _ => exact key _ (.tail _ (.tail _ (.tail _ (.head _))))
    | 4, _ =>
      show ∃ tok, RdA ((Str.ofString "\"\"").cps.toList ++ r) tok r ∧ exOr ⟨tok.toArray⟩ nought = nought + 0 ∧ (Str.ofString "\"\"").cps.size ≤ 16
      rw [e_cps]
      exact ⟨[], .quot _ _ _ (.fin _ _), hz _ _ (by decide +kernel) (.head _), by decide⟩
    | 5, _ =>
      show ∃ tok, RdA ((Str.ofString "\"" ++ whZ st ++ Str.ofString "\"").cps.toList ++ r) tok r ∧ exOr ⟨tok.toArray⟩ nought = nought + 0 ∧ (Str.ofString "\"" ++ whZ st ++ Str.ofString "\"").cps.size ≤ 16
      rw [hw, app_cps, app_cps, Array.toList_append, Array.toList_append, q_cps]
      have q1 : c ≠ 34 := by omega
      have q2 : c ≠ 92 := by omega
      exact ⟨[c], .quot _ _ _ (.other _ _ _ _ _ q1 q2 (.fin _ _)), by rw [no_ws hc4]; omega, by simp only [app_cps, Array.size_append, lsz1]; exact Nat.le_of_ble_eq_true rfl⟩
    | 6, _ =>
      show ∃ tok, RdA ((Str.ofString "\"\\\"\"").cps.toList ++ r) tok r ∧ exOr ⟨tok.toArray⟩ nought = nought + 0 ∧ (Str.ofString "\"\\\"\"").cps.size ≤ 16
      rw [f_cps]
      exact ⟨[34], .quot _ _ _ (.esc _ _ _ _ _ (.fin _ _)), hz _ _ (by decide +kernel) (.tail _ (.tail _ (.tail _ (.tail _ (.tail _ (.head _)))))), by decide⟩
    | 7, _ =>
      show ∃ tok, RdA ((Str.ofString "a\"" ++ whZ st).cps.toList ++ r) tok r ∧ exOr ⟨tok.toArray⟩ nought = nought + 0 ∧ (Str.ofString "a\"" ++ whZ st).cps.size ≤ 16
      rw [hw, app_cps, Array.toList_append, g_cps]
      exact ⟨[97, 34], .other _ _ _ _ rfl (by decide) (by decide) (.other _ _ _ _ _ rfl (by decide) (.fin _ _ _ hc)), hz _ _ (by decide +kernel) (.tail _ (.tail _ (.tail _ (.tail _ (.tail _ (.tail _ (.head _))))))), by simp only [app_cps, Array.size_append, lsz3]; exact Nat.le_of_ble_eq_true rfl⟩
    | 8, _ =>
      show ∃ tok, RdA ((Str.ofString "\\" ++ whZ st ++ whZ st).cps.toList ++ r) tok r ∧ exOr ⟨tok.toArray⟩ nought = nought + 0 ∧ (Str.ofString "\\" ++ whZ st ++ whZ st).cps.size ≤ 16
      rw [hw, app_cps, app_cps, Array.toList_append, Array.toList_append, h_cps]
      exact ⟨[c], .esc _ _ _ _ (.fin _ _ _ hc), by rw [no_ws hc4]; omega, by simp only [app_cps, Array.size_append, lsz2]; exact Nat.le_of_ble_eq_true rfl⟩
  · rw [if_neg e]
    have h1 := Int.fmod_nonneg_of_pos (Int.fdiv st 4) (show (0:Int) < 4 by decide)
    have h2 := Int.fmod_lt_of_pos (Int.fdiv st 4) (show (0:Int) < 4 by decide)
    generalize hj : (Int.fmod (Int.fdiv st 4) 4).toNat = j
    have hj4 : j < 4 := by omega
    match j, hj4 with
    | 0, _ => exact key _ (.head _)
    | 1, _ => exact key _ (.tail _ (.head _))
    | 2, _ => exact key _ (.tail _ (.tail _ (.head _)))
    | 3, _ => exact key _ (.tail _ (.tail _ (.tail _ (.head _))))
theorem foldl_app (l : List Str) (a : Str) : (l.foldl (· ++ ·) a).cps.toList = a.cps.toList ++ l.flatMap fun y => y.cps.toList := by
  induction l generalizing a with
  | nil => simp
  | cons y r ih => rw [List.foldl_cons, ih, app_cps, Array.toList_append, List.flatMap_cons, List.append_assoc]
theorem textZ_cps (look nought : Int) (fs : List Int) : (textZ look nought fs).cps.toList = (wordsZ look nought (Int.fdiv look 41) fs).flatMap fun y => y.cps.toList := by
  unfold textZ
  rw [foldl_app]
  have e : (Str.ofString "").cps.toList = [] := by decide
  rw [e]; rfl
theorem words_rd {look nought : Int} (hn : 7 ≤ nought ∧ nought < 48) : ∀ (fs : List Int) (st : Int), (∀ x ∈ fs, 0 ≤ x ∧ x < 8) → RdL nought fs ((wordsZ look nought st fs).flatMap fun y => y.cps.toList) ∧ ((wordsZ look nought st fs).flatMap fun y => y.cps.toList).length ≤ 16 * fs.length
  | [], _, _ => ⟨rfl, Nat.le_refl _⟩
  | x :: r, st, h => by
    have ih := words_rd (look := look) hn r (stepZ look st) (fun y hy => h y (.tail _ hy))
    show RdL nought (x :: r) ((wordZ nought (stepZ look st) x).cps.toList ++ _) ∧ _
    obtain ⟨tok, h1, h2, h3⟩ := word_rd hn (h x (.head _)) (st := stepZ look st) ((wordsZ look nought (stepZ look st) r).flatMap fun y => y.cps.toList)
    refine ⟨⟨tok, _, h1, h2, ih.1⟩, ?_⟩
    show ((wordZ nought (stepZ look st) x).cps.toList ++ _).length ≤ _
    rw [List.length_append, Array.length_toList, List.length_cons]
    exact Nat.le_trans (Nat.add_le_add h3 ih.2) (by omega)
theorem text_rd {look nought : Int} (hn : 7 ≤ nought ∧ nought < 48) {fs : List Int} (h : ∀ x ∈ fs, 0 ≤ x ∧ x < 8) : RdL nought fs (textZ look nought fs).cps.toList ∧ (textZ look nought fs).cps.toList.length ≤ 16 * fs.length := by
  rw [textZ_cps]
  exact words_rd hn fs _ h
end Mine
end
section
open PySem PySem.W PyProof.Rows PySem.Calls
set_option Elab.async false
set_option compiler.extract_closed false
namespace Mine
set_option maxRecDepth 100000
theorem ints5 (rk pr : Int) (u1 u2 u3 u4 u5 : Tok) : IntsAre [Value.int rk u1, .int pr u2, .int pr u3, .int pr u4, .int pr u5] [rk, pr, pr, pr, pr] := .cons _ _ (.cons _ _ (.cons _ _ (.cons _ _ (.cons _ _ .nil))))
theorem ints6 {sv : List Value} {rk pr : Int} (h : IntsAre sv [rk, pr, pr, pr, pr, pr]) : ∃ u1 u2 u3 u4 u5 u6, sv = [Value.int rk u1, .int pr u2, .int pr u3, .int pr u4, .int pr u5, .int pr u6] := by
  cases h with
  | cons _ u1 h => cases h with
    | cons _ u2 h => cases h with
      | cons _ u3 h => cases h with
        | cons _ u4 h => cases h with
          | cons _ u5 h => cases h with
            | cons _ u6 h => cases h; exact ⟨u1, u2, u3, u4, u5, u6, rfl⟩
theorem pos5 {rk pr : Int} (h1 : 0 < rk ∧ rk < 100) (h2 : 0 < pr ∧ pr < 100) : ∀ x ∈ [rk, pr, pr, pr, pr], 0 < x ∧ x < 100 := by
  intro x hx
  simp only [List.mem_cons, List.not_mem_nil, or_false] at hx
  rcases hx with rfl | rfl | rfl | rfl | rfl <;> assumption
theorem figs_pos : ∀ (ns : List Int) (n : Int), (∀ s ∈ ns, 0 < s ∧ s ≤ 8) → ∀ x ∈ figsZ n ns, 0 ≤ x ∧ x < 8
  | [], _, _, _, hx => nomatch hx
  | s :: r, n, h, x, hx => by
    have hs := h s (.head _)
    rcases List.mem_cons.mp (show x ∈ Int.fmod n s :: figsZ (Int.fdiv n s) r from hx) with rfl | hx
    · have h1 := Int.fmod_nonneg_of_pos n hs.1
      have h2 := Int.fmod_lt_of_pos n hs.1
      omega
    · exact figs_pos r _ (fun s hs => h s (.tail _ hs)) x hx
theorem inter_mem : ∀ (as bs : List Int) (x : Int), x ∈ inter as bs → x ∈ as ∨ x ∈ bs
  | a :: r, b :: q, x, h => by
    rcases List.mem_cons.mp (show x ∈ a :: b :: inter r q from h) with rfl | h
    · exact .inl (.head _)
    rcases List.mem_cons.mp h with rfl | h
    · exact .inr (.head _)
    · rcases inter_mem r q x h with h | h
      · exact .inl (.tail _ h)
      · exact .inr (.tail _ h)
  | [], _, _, h => nomatch h
  | _ :: _, [], _, h => nomatch h
theorem inter_len : ∀ (as bs : List Int), as.length = bs.length → (inter as bs).length = 2 * as.length
  | [], [], _ => rfl
  | a :: r, b :: q, h => by
    show (inter r q).length + 1 + 1 = 2 * (r.length + 1)
    rw [inter_len r q (by simpa using h)]; omega
theorem inter_pos {as bs : List Int} (ha : ∀ x ∈ as, 0 ≤ x ∧ x < 8) (hb : ∀ x ∈ bs, 0 ≤ x ∧ x < 8) : ∀ x ∈ inter as bs, 0 ≤ x ∧ x < 8 := fun x hx => by
  rcases inter_mem as bs x hx with h | h
  · exact ha x h
  · exact hb x h
theorem pos8 {rk pr : Int} (h1 : 0 < rk ∧ rk ≤ 8) (h2 : 0 < pr ∧ pr ≤ 8) : ∀ x ∈ [rk, pr, pr, pr, pr], 0 < x ∧ x ≤ 8 := by
  intro x hx
  simp only [List.mem_cons, List.not_mem_nil, or_false] at hx
  rcases hx with rfl | rfl | rfl | rfl | rfl <;> assumption
end Mine
end
section
open PySem PySem.W PyProof.Rows
set_option Elab.async false
set_option compiler.extract_closed false
namespace Mine
set_option maxRecDepth 100000
/-- the size of a place -/
noncomputable def szP (r p : Int) (j : Nat) : Int := if j = 0 then r else p
/-- what is left of a number behind the first places -/
noncomputable def dvP (n r p : Int) : Nat → Int
  | 0 => n
  | j + 1 => Int.fdiv (dvP n r p j) (szP r p j)
/-- its figure there -/
noncomputable def fgP (n r p : Int) (j : Nat) : Int := Int.fmod (dvP n r p j) (szP r p j)
/-- what is carried into a place -/
noncomputable def cyP (a b r p : Int) (j : Nat) : Int := dvP (a + b) r p j - dvP a r p j - dvP b r p j
theorem figs5 (n r p : Int) : figsZ n [r, p, p, p, p] = [fgP n r p 0, fgP n r p 1, fgP n r p 2, fgP n r p 3, fgP n r p 4] := rfl
theorem figs6 (n r p : Int) : figsZ n [r, p, p, p, p, p] = [fgP n r p 0, fgP n r p 1, fgP n r p 2, fgP n r p 3, fgP n r p 4, fgP n r p 5] := rfl
/-- the figures still to come, by the places still to come -/
noncomputable def wrP (a b r p : Int) : Nat → List Int
  | 0 => []
  | k + 1 => fgP a r p (4 - k) :: fgP b r p (4 - k) :: wrP a b r p k
theorem wrP5 (a b r p : Int) : inter (figsZ a [r, p, p, p, p]) (figsZ b [r, p, p, p, p]) = wrP a b r p 5 := rfl
theorem szP_pos {r p : Int} (hr : 2 ≤ r ∧ r ≤ 8) (hp : p = 3 ∨ p = 5 ∨ p = 7) (j : Nat) : 2 ≤ szP r p j ∧ szP r p j ≤ 8 := by
  unfold szP; split <;> omega
theorem fdiv_fmod (n s : Int) (hs : 0 < s) : s * Int.fdiv n s + Int.fmod n s = n ∧ 0 ≤ Int.fmod n s ∧ Int.fmod n s < s := by
  refine ⟨?_, Int.fmod_nonneg_of_pos n hs, Int.fmod_lt_of_pos n hs⟩
  have := Int.mul_fdiv_add_fmod n s
  exact this
theorem fdiv_uniq {n s q t : Int} (h : n = s * q + t) (h0 : 0 ≤ t) (h1 : t < s) : Int.fdiv n s = q ∧ Int.fmod n s = t := by
  have hs : 0 < s := by omega
  rw [Int.fdiv_eq_ediv_of_nonneg _ (Int.le_of_lt hs), Int.fmod_eq_emod_of_nonneg _ (Int.le_of_lt hs)]
  subst h
  constructor
  · rw [Int.add_comm, Int.add_mul_ediv_left _ _ (Int.ne_of_gt hs), Int.ediv_eq_zero_of_lt h0 h1]; omega
  · rw [Int.add_comm, Int.add_mul_emod_self_left, Int.emod_eq_of_lt h0 h1]
/-- a place's sum -/
theorem place {a b r p : Int} (hr : 2 ≤ r ∧ r ≤ 8) (hp : p = 3 ∨ p = 5 ∨ p = 7) (j : Nat) (hc : cyP a b r p j = 0 ∨ cyP a b r p j = 1) :
    (szP r p j ≤ cyP a b r p j + fgP a r p j + fgP b r p j → cyP a b r p (j + 1) = 1 ∧ fgP (a + b) r p j = cyP a b r p j + fgP a r p j + fgP b r p j - szP r p j) ∧
    (cyP a b r p j + fgP a r p j + fgP b r p j < szP r p j → cyP a b r p (j + 1) = 0 ∧ fgP (a + b) r p j = cyP a b r p j + fgP a r p j + fgP b r p j) := by
  have hs := szP_pos hr hp j
  have ha := fdiv_fmod (dvP a r p j) (szP r p j) (by omega)
  have hb := fdiv_fmod (dvP b r p j) (szP r p j) (by omega)
  unfold cyP fgP at *
  simp only [dvP]
  generalize dvP a r p j = A at *
  generalize dvP b r p j = B at *
  generalize dvP (a + b) r p j = C at *
  generalize szP r p j = s at *
  generalize Int.fdiv A s = qa at *
  generalize Int.fmod A s = xa at *
  generalize Int.fdiv B s = qb at *
  generalize Int.fmod B s = xb at *
  have hC : C = A + B + (C - A - B) := by omega
  constructor
  · intro h
    have := fdiv_uniq (n := C) (s := s) (q := qa + qb + 1) (t := C - A - B + xa + xb - s) (by rw [Int.mul_add, Int.mul_add]; omega) (by omega) (by omega)
    omega
  · intro h
    have := fdiv_uniq (n := C) (s := s) (q := qa + qb) (t := C - A - B + xa + xb) (by rw [Int.mul_add]; omega) (by omega) (by omega)
    omega
theorem fgP_pos {n r p : Int} (hr : 2 ≤ r ∧ r ≤ 8) (hp : p = 3 ∨ p = 5 ∨ p = 7) (j : Nat) : 0 ≤ fgP n r p j ∧ fgP n r p j < szP r p j := by
  have hs := szP_pos hr hp j
  exact (fdiv_fmod (dvP n r p j) (szP r p j) (by omega)).2
theorem fd_le {n s : Int} (hs : 0 < s) (h0 : 0 ≤ n) : 0 ≤ Int.fdiv n s ∧ s * Int.fdiv n s ≤ n := by
  have := fdiv_fmod n s hs
  rw [Int.fdiv_eq_ediv_of_nonneg _ (Int.le_of_lt hs)] at *
  exact ⟨Int.ediv_nonneg h0 (Int.le_of_lt hs), by omega⟩
/-- five places hold any of the numbers -/
theorem fgP5 {n r p : Int} (hr : 2 ≤ r ∧ r ≤ 8) (hp : p = 3 ∨ p = 5 ∨ p = 7) (hn : 0 ≤ n ∧ n < 120) : fgP n r p 5 = 0 ∧ dvP n r p 5 = 0 := by
  have h1 := fd_le (n := n) (s := r) (by omega) hn.1
  have e1 : Int.fdiv n r ≤ 59 := by
    have : 2 * Int.fdiv n r ≤ r * Int.fdiv n r := Int.mul_le_mul_of_nonneg_right hr.1 h1.1
    omega
  have step : ∀ m : Int, 0 ≤ m → 0 ≤ Int.fdiv m p ∧ 3 * Int.fdiv m p ≤ m := fun m hm => by
    have h := fd_le (n := m) (s := p) (by omega) hm
    refine ⟨h.1, ?_⟩
    have : 3 * Int.fdiv m p ≤ p * Int.fdiv m p := Int.mul_le_mul_of_nonneg_right (by omega) h.1
    omega
  have s1 := step _ h1.1
  have s2 := step _ s1.1
  have s3 := step _ s2.1
  have s4 := step _ s3.1
  have e5 : dvP n r p 5 = Int.fdiv (Int.fdiv (Int.fdiv (Int.fdiv (Int.fdiv n r) p) p) p) p := rfl
  have z : dvP n r p 5 = 0 := by rw [e5]; omega
  refine ⟨?_, z⟩
  unfold fgP
  rw [z]
  simp [Int.fmod]
/-- the reader's state ahead of a place -/
noncomputable def RdS (no a b r p : Int) (j : Nat) (cs : List Nat) : Prop := RdL no (wrP a b r p (5 - j)) cs
theorem empty_op (d : Int) : exOr (⟨([] : List Nat).toArray⟩ : Str) d = d := no_op (.head _) d
theorem sub5 : ∀ j, j < 5 → 5 - j = (4 - j) + 1 ∧ 4 - (4 - j) = j ∧ 5 - (j + 1) = 4 - j := by decide
theorem rd_step {no a b r p : Int} (hr : 2 ≤ r ∧ r ≤ 8) (hp : p = 3 ∨ p = 5 ∨ p = 7) (ha : 0 ≤ a ∧ a < 120) (hb : 0 ≤ b ∧ b < 120) {j : Nat} (hj : j ≤ 5) {cs : List Nat} (h : RdS no a b r p j cs) :
    ∃ tok rest tok2 rest2, RdA cs tok rest ∧ exOr ⟨tok.toArray⟩ no = no + fgP a r p j ∧ RdA rest tok2 rest2 ∧ exOr ⟨tok2.toArray⟩ no = no + fgP b r p j ∧ RdS no a b r p (j + 1) rest2 := by
  unfold RdS at h
  rcases Nat.lt_or_ge j 5 with hlt | hge
  · obtain ⟨k, hk, e4, e5⟩ : ∃ k, 5 - j = k + 1 ∧ 4 - k = j ∧ 5 - (j + 1) = k := ⟨4 - j, sub5 j hlt⟩
    rw [hk] at h
    obtain ⟨tok, rest, h1, h2, tok2, rest2, h3, h4, h5⟩ := h
    rw [e4] at h2 h4
    refine ⟨tok, rest, tok2, rest2, h1, h2, h3, h4, ?_⟩
    unfold RdS
    rw [e5]; exact h5
  · obtain rfl : j = 5 := by omega
    have hcs : cs = [] := h
    subst hcs
    exact ⟨[], [], [], [], .nil, by rw [empty_op, (fgP5 hr hp ha).1]; omega, .nil, by rw [empty_op, (fgP5 hr hp hb).1]; omega, rfl⟩
theorem rdA_len {cs tok rest : List Nat} (h : RdA cs tok rest) : rest.length ≤ cs.length := by
  have hB : ∀ {acc cs t r : List Nat}, RdB acc cs t r → r.length ≤ cs.length := by
    intro acc cs t r h
    induction h with
    | fin => simp
    | esc _ _ _ _ _ _ ih => simp; omega
    | other _ _ _ _ _ _ _ _ ih => simp; omega
  have hC : ∀ {acc cs t r : List Nat}, RdC acc cs t r → r.length ≤ cs.length := by
    intro acc cs t r h
    induction h with
    | fin => simp
    | esc _ _ _ _ _ _ ih => simp; omega
    | other _ _ _ _ _ _ _ _ ih => simp; omega
  induction h with
  | nil => simp
  | ws _ _ _ _ _ _ ih => simp; omega
  | quot _ _ _ h => have := hB h; simp; omega
  | esc _ _ _ _ h => have := hC h; simp; omega
  | other _ _ _ _ _ _ _ h => have := hC h; simp; omega
noncomputable def vP (r p : Int) (n : Nat) : Int := if n = 7 then r else p
noncomputable def ylP (kd : Int) (n : Nat) : Prop := kd = 0 ∨ 3 ≤ n
noncomputable def enP (kd : Int) (n : Nat) : Prop := kd ≠ 0 ∧ n = 3
theorem rul_gen {kd r p : Int} (hk : kd = 0 ∨ kd = 1 ∨ kd = 2) (hr : 2 ≤ r ∧ r ≤ 8) (hp : p = 3 ∨ p = 5 ∨ p = 7) : GenV (vP r p) (ylP kd) (enP kd) 8 none (rulZ kd r p) := by
  have r1 : r ≠ 127 := by omega
  have r2 : r ≠ 0 := by omega
  have p1 : p ≠ 127 := by clear hr r1 r2 hk; rcases hp with rfl | rfl | rfl <;> decide
  have p2 : p ≠ 0 := by clear hr r1 r2 hk; rcases hp with rfl | rfl | rfl <;> decide
  rcases hk with rfl | rfl | rfl
  · rw [rulZ, if_pos rfl]
    simp only [GenV, if_neg r1, if_neg r2, if_neg p1, if_neg p2]
    refine ⟨⟨rfl, .inl rfl⟩, fun _ => ⟨⟨rfl, .inl rfl⟩, fun _ => ?_⟩⟩
    rw [if_neg (by decide), if_pos trivial]
    exact ⟨p, rfl, fun k hk => ⟨if_neg (by omega), .inl rfl⟩⟩
  · rw [rulZ, if_neg (by decide), if_pos rfl]
    simp only [GenV, if_neg r1, if_neg r2, if_neg p1, if_neg p2]
    exact ⟨⟨rfl, .inr (by decide)⟩, fun _ => ⟨⟨rfl, .inr (by decide)⟩, fun _ => ⟨⟨rfl, .inr (by decide)⟩, fun _ => ⟨⟨rfl, .inr (by decide)⟩, fun _ => ⟨⟨rfl, .inr (by decide)⟩, fun _ => ⟨by decide, rfl⟩⟩⟩⟩⟩⟩
  · rw [rulZ, if_neg (by decide), if_neg (by decide)]
    simp only [GenV, if_neg r1, if_neg r2, if_neg p1, if_neg p2]
    refine ⟨⟨rfl, .inr (by decide)⟩, fun _ => ⟨⟨rfl, .inr (by decide)⟩, fun _ => ⟨⟨rfl, .inr (by decide)⟩, fun _ => ⟨⟨rfl, .inr (by decide)⟩, fun _ => ⟨⟨rfl, .inr (by decide)⟩, fun _ => ?_⟩⟩⟩⟩⟩
    exact ⟨by decide, rfl⟩
end Mine
end
section
open PySem PySem.W PyProof.Rows PySem.Calls
set_option Elab.async false
set_option compiler.extract_closed false
namespace Mine
set_option maxRecDepth 100000
section
variable {prog : Program} {w : World} {A : Around} {E : Value → Shared → Prop} {s : Shared}
/-- one value more of a function's generator, which stays bare -/
theorem next_bare {a : Addr} {g n : Nat} {gs : GenState} {P : Nat → Shared → Shared → Prop} {Y : Protocol} {Q : Option Value → Shared → Prop} (hh : A.handled = none)
    (hl : s.heap.NoLimit) (hroom : A.depth < recursionLimit) (hg : s.heap.IsGen a g) (hgs : s.gens[g]? = some gs)
    (hgo : gs.Goes (model prog w) A.in1 (fun n s₀ r s₁ => r = .ok (.ret .none) ∧ P n s₀ s₁) Y n (.send .none) (s.setGen g .running))
    (hY : ∀ v s₁ gs', gs'.bare = true → Y (n - 1) (s.setGen g .running) v s₁ (fun r' s'' => match n with
        | 0 => False
        | m + 1 => gs'.Goes (model prog w) A.in1 (fun n s₀ r s₁ => r = .ok (.ret .none) ∧ P n s₀ s₁) Y m r' s'') → Q (some v) (s₁.setGen g gs'))
    (hP : ∀ s₁, P n (s.setGen g .running) s₁ → ∀ h', (∀ b o, s₁.heap.get? b = some o → h'.get? b = some o) → Q none { s₁.setGen g .finished with heap := h' }) :
    wpAny (model prog w) A (pyNext (.ref a)) Q E s := by
  unfold pyNext
  refine wpAny_bind (wpAny_attempt (wpAny_callSpecial?_slot (name := Str.ofString "__next__") hg.typeIs slot_gen_next
    (wpAny_call_entry slot_gen_next hg.typeIs entry_gen_next ?_ (args_gen_next _))))
  show wpAny _ A.in1 (Builtin.Generator.genWake (.ref a) (.send .none)) _ _ s
  unfold Builtin.Generator.genWake
  refine wpAny_bind (wpAny_holding (wpAny_genNumber hg (wpAny_bind (wpAny_genState hgs ?_))))
  have stop : ∀ s₁ (x : Result), (x = .ok (.ret .none) ∧ P n (s.setGen g .running) s₁) → True := fun _ _ _ => trivial
  cases gs with
  | running => exact hgo.elim
  | finished => exact hgo.elim
  | fresh c =>
    refine wpAny_bind (wpAny_roomToWake hl hroom ?_)
    show wpAny _ A.in1 (.resume g (.send .none) [] _) _ _ s
    refine wpAny_resumeQ hgs hgo (fun x s₁ hx => ?_) (fun v s₁ gs' hb hv => wpAny_pure ⟨v, rfl, wpAny_pure (hY v s₁ gs' hb hv)⟩)
    obtain ⟨rfl, hp⟩ := hx
    show wpAny _ A.in1 (newExc (.type "StopIteration") [] >>= _) _ _ _
    refine wpAny_bind ?_
    simp only [newExc, newTuple]
    refine wpAny_bind (wpAny_newObj_type ?_ (by size_fits))
    refine wpAny_bind (m := firstArgMember _ _) (wpAny_of_eq (a := Value.none) (by first | rfl | (simp only [firstArgMember]; rfl)) ?_)
    refine wpAny_newObj_type ?_ (by size_fits)
    simp only [raiseNew]
    refine wpAny_bind (wpAny_bind (wpAny_handled ?_))
    rw [show A.in1.handled = none from hh]
    refine wpAny_throw ?_
    refine wpAny_bind (wpAny_isInstance (T := "StopIteration") (b := true) ⟨_, Heap.get?_push_size _ rfl, rfl⟩ isSubtype_stop ?_)
    exact wpAny_pure (hP s₁ hp _ fun b o hb => Heap.get?_push_of_some _ (Heap.get?_push_of_some _ hb))
  | suspended k₀ l₀ c₀ p₀ fs₀ cl =>
    refine wpAny_bind (wpAny_roomToWake hl hroom ?_)
    show wpAny _ A.in1 (.resume g (.send .none) [] _) _ _ s
    refine wpAny_resumeQ hgs hgo (fun x s₁ hx => ?_) (fun v s₁ gs' hb hv => wpAny_pure ⟨v, rfl, wpAny_pure (hY v s₁ gs' hb hv)⟩)
    obtain ⟨rfl, hp⟩ := hx
    show wpAny _ A.in1 (newExc (.type "StopIteration") [] >>= _) _ _ _
    refine wpAny_bind ?_
    simp only [newExc, newTuple]
    refine wpAny_bind (wpAny_newObj_type ?_ (by size_fits))
    refine wpAny_bind (m := firstArgMember _ _) (wpAny_of_eq (a := Value.none) (by first | rfl | (simp only [firstArgMember]; rfl)) ?_)
    refine wpAny_newObj_type ?_ (by size_fits)
    simp only [raiseNew]
    refine wpAny_bind (wpAny_bind (wpAny_handled ?_))
    rw [show A.in1.handled = none from hh]
    refine wpAny_throw ?_
    refine wpAny_bind (wpAny_isInstance (T := "StopIteration") (b := true) ⟨_, Heap.get?_push_size _ rfl, rfl⟩ isSubtype_stop ?_)
    exact wpAny_pure (hP s₁ hp _ fun b o hb => Heap.get?_push_of_some _ (Heap.get?_push_of_some _ hb))
/-- what a generator of the law still gives: n values, once the objects of its own stand -/
noncomputable def Gives (prog : Program) (w : World) (A' : Around) (h₀ : Heap) (gf l : Addr) (lobj : Obj) (V : Nat → Int) (Yl En : Nat → Prop) (n : Nat) (objs : List (Addr × Obj)) (gs : GenState) : Prop :=
  ∀ s₁ : Shared, (∀ b o, h₀.get? b = some o → s₁.heap.get? b = some o) → Led s₁.heap objs → s₁.heap.get? l = some lobj →
    gs.Goes (model prog w) A' (fun n s₀ r s₁ => r = .ok (.ret .none) ∧ GP h₀ gf En n s₀ s₁) (GY h₀ gf l lobj V Yl) n (.send .none) s₁
theorem not_it_ns {h : Heap} {L : Addr} {m : Str → Option Value} (x : h.Ns L m) : ∃ o, h.get? L = some o ∧ ¬ IsIt o := by
  obtain ⟨o, es, ep, e, hd, _⟩ := x
  exact ⟨o, e, fun hi => by obtain ⟨_, _, _, h2⟩ := hi; rw [hd] at h2; cases h2⟩
theorem fr_kept {h₀ h h' : Heap} {L gf : Addr} {m : Str → Option Value} (F : Fr h₀ L h m) (hg : L ≠ gf) (hk : ∀ b o, b ≠ gf → ¬ IsIt o → h.get? b = some o → h'.get? b = some o) (h0 : ∀ b o, h₀.get? b = some o → h'.get? b = some o) : Fr h₀ L h' m := by
  obtain ⟨o, e, hi⟩ := not_it_ns F.ns
  exact ⟨F.ns.at' fun o' e' => by rw [e] at e'; cases e'; exact hk L o hg hi e, h0, F.above⟩
theorem gen_next {h₀ : Heap} {L gf a l : Addr} {m : Str → Option Value} {news rest objs : List (Addr × Obj)} {lobj of' : Obj} {V : Nat → Int} {Yl En : Nat → Prop} {g n : Nat} {gs : GenState} {Q : Option Value → Shared → Prop} (hh : A.handled = none) (hl : s.heap.NoLimit) (hroom : A.depth < recursionLimit)
    (F : Fr h₀ L s.heap m) (N : News h₀ L s.heap news) (hg : s.heap.IsGen a g) (hgs : s.gens[g]? = some gs) (hgo : Gives prog w A.in1 h₀ gf l lobj V Yl En (n + 1) objs gs) (hobj : ∀ p ∈ objs, p ∈ news) (hgf : (gf, of') ∈ news) (hll : (l, lobj) ∈ news)
    (hrest : ∀ p ∈ rest, p ∈ news ∧ p.1 ≠ gf ∧ ¬ IsIt p.2)
    (h : ∀ t gs' o it oi h' tk', Fr h₀ L h' m → News h₀ L h' ((gf, o) :: (it, oi) :: rest) → gs'.bare = true → IsIt oi → Yl n → (0 < n → Gives prog w A.in1 h₀ gf l lobj V Yl En n [(gf, o), (it, oi)] gs') →
      Q (some (.int (V n) t)) { s with heap := h', toks := tk', gens := (s.gens.setIfInBounds g .running).setIfInBounds g gs' })
    (hend : ∀ h' tk', En (n + 1) → Fr h₀ L h' m → News h₀ L h' rest → Q none { s with heap := h', toks := tk', gens := (s.gens.setIfInBounds g .running).setIfInBounds g .finished }) :
    wpAny (model prog w) A (pyNext (.ref a)) Q E s := by
  have hgL : L ≠ gf := Ne.symm (N _ hgf).2.1
  refine next_bare hh hl hroom hg hgs (hgo _ F.keep (fun p hp => (N p (hobj p hp)).1) (N _ hll).1) (fun v s₁ gs' hb hy => ?_) (fun s₁ hp h' hk' => ?_)
  · obtain ⟨⟨t, rfl⟩, hyl, ⟨h', tk', rfl⟩, hk, h0, o, it, oi, e1, e2, e3, e4, hres⟩ := hy
    have F' := fr_kept F hgL hk h0
    have hitL : it ≠ L := by
      rintro rfl
      obtain ⟨o', e', hi⟩ := not_it_ns F'.ns
      rw [e2] at e'; cases e'; exact hi e3
    refine h t gs' o it oi h' tk' F' (fun p hp => ?_) hb e3 hyl (fun hn s₂ hk2 hl2 hll2 => ?_)
    · rcases List.mem_cons.mp hp with rfl | hp
      · exact ⟨e1, (N _ hgf).2⟩
      rcases List.mem_cons.mp hp with rfl | hp
      · exact ⟨e2, hitL, e4⟩
      · obtain ⟨q1, q2, q3⟩ := hrest p hp
        exact ⟨hk _ _ q2 q3 (N p q1).1, (N p q1).2⟩
    · exact hres hn s₂ hk2 (hl2 _ (.head _)) (hl2 _ (.tail _ (.head _))) hll2
  · obtain ⟨hen, ⟨h2, tk2, rfl⟩, hk, h0⟩ := hp
    have F' := fr_kept F hgL hk h0
    refine hend h' tk2 hen (F'.keeps hk') (fun p hp => ?_)
    obtain ⟨q1, q2, q3⟩ := hrest p hp
    exact ⟨hk' _ _ (hk _ _ q2 q3 (N p q1).1), (N p q1).2⟩
end
end Mine
end
section
open PySem PySem.W PyProof.Rows PySem.Calls
set_option Elab.async false
set_option compiler.extract_closed false
namespace Mine
set_option maxRecDepth 100000
section
variable {prog : Program} {w : World} {A : Around} {s : Shared} {env : Env}
theorem for_any {x : Str} {px pos : Pos} {iter : Expr} {body : List Stmt} {Q : Flow → Shared → Prop} (I : Addr → Nat → Shared → Prop) (n : Nat)
    (hiter : wpAny (model prog w) A (eval iter env) (fun v s₁ => wpAny (model prog w) A (pyIter v) (fun it' s₂ => ∃ it, it' = .ref it ∧ I it n s₂) (fun _ _ => False) s₁) (fun _ _ => False) s)
    (turn : ∀ it n s, I it n s → wpAny (model prog w) A (pyNext (.ref it)) (fun r s₁ => match r with
      | none => Q .next s₁
      | some v => wpAny (model prog w) A (storeName env x v) (fun _ s₂ => wpAny (model prog w) A (execs body env) (fun f s₃ => match f with
          | .next | .cont => Again (I it) n s₃
          | .brk => Q .next s₃
          | .ret v => Q (.ret v) s₃) (fun _ _ => False) s₂) (fun _ _ => False) s₁) (fun _ _ => False) s)
    (hs : ∀ x, foldedSetIterable iter env x = pure x := by intro _; rfl) :
    wpAny (model prog w) A (exec (.For (.Name x px) iter body [] pos) env) Q (fun _ _ => False) s := by
  refine wpAny_For (wpAny_mono hiter (fun v s₁ h₁ => wpAny_mono h₁ (fun it' s₂ h₂ => ?_) fun _ _ e => e) fun _ _ e => e) hs
  obtain ⟨it, rfl, hI⟩ := h₂
  refine codeAny_forLoop (I it) (fun k s' hk => wpAny_mono (turn it k s' hk) (fun r s₃ h₃ => ?_) fun _ _ e => e.elim) n hI
  cases r with
  | none => exact wpAny_execs_nil h₃
  | some v =>
    refine wpAny_assign_Name (wpAny_mono h₃ (fun _ s₄ h₄ => wpAny_mono h₄ (fun f s₅ h₅ => ?_) fun _ _ e => e.elim) fun _ _ e => e.elim)
    cases f <;> exact h₅
end
section
variable {prog : Program} {w : World} {A : Around} {E : Value → Shared → Prop} {s : Shared} {h₀ : Heap} {L D : Addr} {m : Str → Option Value} {news : List (Addr × Obj)} {c : Nat}
theorem lenI {vs : List Value} {j : Nat} {R : Value → Shared → Prop} (N : News h₀ L s.heap news) (hm : (D, listOf vs.toArray c) ∈ news) (hl : vs.length = j) (hn : j < 1000)
    (h : R (.int (j : Int) (s.toks + 1)) { s with toks := s.toks + 1 + 1 }) : wpAny (model prog w) A (call (.builtin "len") [.ref D]) R E s := by
  have e : vs.toArray.size = j := by simpa using hl
  refine len_list (news_list N hm) (by rw [e]; omega) ?_
  rw [e]; exact h
theorem itemNm {value slice : Expr} {nv : List Value} {k : Int} {u : Tok} {R : Value → Shared → Prop} (N : News h₀ L s.heap news) (hm : (D, listOf nv.toArray c) ∈ news) (hn : StrsAre nv namesX) (hk : 0 ≤ k) (hk2 : k < 48)
    (h : ∀ t, R (.str (nm k) t) s)
    (hs : subscripted slice false (.ref D) (.int k u) = operate [.ref D, .int k u] (getItem (.ref D) (.int k u)) := by with_unfolding_all rfl) (hg : ∀ r, letTemporaryGo value (.ref D) r = pure () := by intro _; with_unfolding_all rfl) :
    wpAny (model prog w) A (subscriptTail value slice (.ref D) (.int k u)) R E s := by
  have hx : namesX[k.toNat]? = some (nm k) := by
    have : k.toNat < namesX.length := by rw [namesX_len]; omega
    unfold nm
    rw [List.getD_eq_getElem?_getD, List.getElem?_eq_getElem this]; rfl
  obtain ⟨t, hx'⟩ := hn.get k.toNat _ hx
  exact item_list (news_list N hm) hk (by omega) (by simpa using hx') (h t) hs hg
end
noncomputable abbrev genOb (gi : Nat) (ta tb tc : Tok) : Obj := { cls := .type "generator", data := .fields #[.int gi 0, .str (Str.ofString "_grouping_intervals") tb, .str (Str.ofString "_grouping_intervals") tc] }
theorem ne_it {h₀ h : Heap} {L : Addr} {news : List (Addr × Obj)} {a b : Nat} {o q : Obj} (N : News h₀ L h news) (m1 : (a, o) ∈ news) (m2 : (b, q) ∈ news) (h1 : IsIt o) (h2 : ¬ IsIt q) : @Ne Nat a b := by
  rintro rfl
  have e := (N _ m1).1
  rw [(N _ m2).1] at e
  cases e
  exact h2 h1
theorem it_list {vs : Array Value} {n : Nat} : ¬ IsIt (listOf vs n) := fun h => by obtain ⟨_, _, _, e⟩ := h; cases e
theorem it_dx {c : Lx} {P : Params} {t : Tok} {ln : Int} : ¬ IsIt (c.dx P t ln) := fun h => by obtain ⟨_, _, _, e⟩ := h; cases e
/-- the places that the ruler asks for -/
noncomputable def plN (kd : Int) : Nat := if kd = 0 then 6 else 5
/-- what the loop over the ruler has made behind j places -/
noncomputable def LoopM (g : Heap) (L : Addr) (mf : Int → Tok → Option Value → Option Value → Str → Option Value) (led : List (Addr × Obj)) (P : Params) (no a b r p K : Int) (c : Lx) (lC kPB : Addr) (j : Nat) (h : Heap) : Prop :=
  ∃ (cvs kvs svs : List Value) (cn kn sn : Nat) (cs : List Nat) (t1 : Tok) (ln : Int) (ct : Tok) (sv tv : Option Value),
    Fr g L h (mf (cyP a b r p j) ct sv tv) ∧ News g L h ((lC, listOf cvs.toArray cn) :: (kPB, listOf kvs.toArray kn) :: (c.DX, c.dx P t1 ln) :: (c.SG, listOf svs.toArray sn) :: led) ∧
    IntsAre cvs ((List.range j).map fun i => cyP a b r p (i + 1)) ∧ StrsAre kvs ((List.range j).map fun i => nm (no - 7 + fgP (a + b) r p i)) ∧ Signs svs cs.reverse ∧ RdS no a b r p j cs ∧ cs.length ≤ 1000 ∧ bumps cs ln = K ∧
    (cyP a b r p j = 0 ∨ cyP a b r p j = 1)
noncomputable def LoopI (prog : Program) (w : World) (A' : Around) (g : Heap) (L : Addr) (s₀ : Shared) (mf : Int → Tok → Option Value → Option Value → Str → Option Value) (fix : List (Addr × Obj)) (P : Params) (no a b r p kd K : Int) (c : Lx) (lC kPB l gf : Addr) (lobj : Obj) (it : Addr) (n : Nat) (s : Shared) : Prop :=
  ∃ (j : Nat) (h : Heap) (tk : Nat) (gens : Array GenState) (gi : Nat) (gs : GenState) (of' oi : Obj) (ix : Nat) (ta tb tc : Tok), s = { s₀ with heap := h, toks := tk, gens := gens } ∧ n = 8 - j ∧ j ≤ plN kd ∧
    LoopM g L mf ((it, genOb gi ta tb tc) :: (gf, of') :: (ix, oi) :: fix) P no a b r p K c lC kPB j h ∧ gens[gi]? = some gs ∧ (∀ y ∈ gens, y.bare = true) ∧ Gives prog w A' g gf l lobj (vP r p) (ylP kd) (enP kd) (8 - j) [(gf, of'), (ix, oi)] gs ∧
    (@Ne Nat ix lC ∧ @Ne Nat ix kPB ∧ @Ne Nat ix c.DX ∧ @Ne Nat ix c.SG) ∧ (@LT.lt Nat _ lC gf ∧ @LT.lt Nat _ gf it)
noncomputable def LoopD (g : Heap) (L : Addr) (s₀ : Shared) (mf : Int → Tok → Option Value → Option Value → Str → Option Value) (fix : List (Addr × Obj)) (P : Params) (no a b r p kd K : Int) (c : Lx) (lC kPB : Addr) (f : Flow) (s : Shared) : Prop :=
  ∃ (h : Heap) (tk : Nat) (gens : Array GenState), f = .next ∧ s = { s₀ with heap := h, toks := tk, gens := gens } ∧ LoopM g L mf fix P no a b r p K c lC kPB (plN kd) h ∧ ∀ y ∈ gens, y.bare = true
theorem range_snoc {α : Type} (f : Nat → α) (j : Nat) : (List.range (j + 1)).map f = (List.range j).map f ++ [f j] := by rw [List.range_succ]; simp
theorem bare_set {gens : Array GenState} {g : Nat} {a b : GenState} (h : ∀ y ∈ gens, y.bare = true) (ha : a.bare = true) (hb : b.bare = true) : ∀ y ∈ (gens.setIfInBounds g a).setIfInBounds g b, y.bare = true := by
  intro y hy
  rcases Array.mem_or_eq_of_mem_setIfInBounds hy with hy | rfl
  · rcases Array.mem_or_eq_of_mem_setIfInBounds hy with hy | rfl
    · exact h y hy
    · exact ha
  · exact hb
noncomputable abbrev lw5 (v : Lw) (x : Addr) (pl : Int) (tpl : Tok) (DW : Addr) (xt : Str) (tt : Tok) (X lC : Addr) (cy : Int) (ct : Tok) (sv tv : Option Value) : Lw :=
  { v with ruler := some (.ref x), places := some (.int pl tpl), written := some (.ref DW), text := some (.str xt tt), lexer := some (.ref X), carried := some (.ref lC), carry := some (.int cy ct), size := sv, total := tv }
theorem for_law {prog : Program} {w : World} {A : Around} {s : Shared} {env : Env} {x : Str} {px pos : Pos} {iter : Expr} {body : List Stmt} {Q : Flow → Shared → Prop} (I : Program → Around → Addr → Nat → Shared → Prop) (n : Nat)
    (hiter : wpAny (model prog w) A (eval iter env) (fun v s₁ => wpAny (model prog w) A (pyIter v) (fun it' s₂ => ∃ it, it' = .ref it ∧ I prog A.in1 it n s₂) (fun _ _ => False) s₁) (fun _ _ => False) s)
    (turn : ∀ it n s, I prog A.in1 it n s → wpAny (model prog w) A (pyNext (.ref it)) (fun r s₁ => match r with
      | none => Q .next s₁
      | some v => wpAny (model prog w) A (storeName env x v) (fun _ s₂ => wpAny (model prog w) A (execs body env) (fun f s₃ => match f with
          | .next | .cont => Again (I prog A.in1 it) n s₃
          | .brk => Q .next s₃
          | .ret v => Q (.ret v) s₃) (fun _ _ => False) s₂) (fun _ _ => False) s₁) (fun _ _ => False) s)
    (hs : ∀ x, foldedSetIterable iter env x = pure x := by intro _; rfl) :
    wpAny (model prog w) A (exec (.For (.Name x px) iter body [] pos) env) Q (fun _ _ => False) s := for_any (I prog A.in1) n hiter turn hs
theorem cyP0 (a b r p : Int) : cyP a b r p 0 = 0 := by show a + b - a - b = 0; omega
theorem gen_start {prog : Program} {w : World} {A' : Around} {g h h₁ : Heap} {L : Addr} {s₀ : Shared} {mf : Int → Tok → Option Value → Option Value → Str → Option Value} {fix : List (Addr × Obj)} {P : Params} {no a b r p kd : Int} {c : Lx} {lC kPB l : Nat} {lobj o : Obj} {ta tb tc t1 ct : Tok} {gs : GenState} {tk sn : Nat} {svs : List Value} {cs : List Nat}
    (F : Fr g L h (mf 0 ct none none)) (N : News g L h ((lC, listOf #[] 0) :: (kPB, listOf #[] 0) :: (c.DX, c.dx P t1 1) :: (c.SG, listOf svs.toArray sn) :: fix)) (hk : ∀ b o, h.get? b = some o → h₁.get? b = some o) (ho : h₁.get? h.objs.size = some o) (hlt : h.objs.size < h₁.objs.size) (hbare : gs.bare = true) (hge : s₀.gens = #[])
    (hG : ∀ s₁ : Shared, (∀ b o, g.get? b = some o → s₁.heap.get? b = some o) → s₁.heap.get? h.objs.size = some o → s₁.heap.get? l = some lobj →
        GenState.Goes (model prog w) A' (fun n s₀ r s₁ => r = .ok (.ret .none) ∧ GP g h.objs.size (enP kd) n s₀ s₁) (GY g h.objs.size l lobj (vP r p) (ylP kd)) 8 gs (.send .none) s₁)
    (hs : Signs svs cs.reverse) (hrd : RdS no a b r p 0 cs) (hcl : cs.length ≤ 1000) :
    LoopI prog w A' g L s₀ mf fix P no a b r p kd (bumps cs 1) c lC kPB l h.objs.size lobj h₁.objs.size 8 { s₀ with heap := h₁.push (genOb s₀.gens.size ta tb tc), toks := tk, gens := s₀.gens.push gs } := by
  have hgf0 : g.get? h.objs.size = none := next_is_new F
  have hga0 : g.get? h₁.objs.size = none := by
    cases e : g.get? h₁.objs.size with
    | none => rfl
    | some o' => exact absurd (Heap.lt_size (hk _ _ (F.keep _ _ e))) (Nat.lt_irrefl _)
  have up : ∀ b o, h₁.get? b = some o → (h₁.push (genOb s₀.gens.size ta tb tc)).get? b = some o := fun b o e => Heap.get?_push_of_some _ e
  have hLlt : @LT.lt Nat _ L h.objs.size := F.ns.lt
  have hlt' : @LT.lt Nat _ h.objs.size h₁.objs.size := hlt
  have lt : ∀ q ∈ ((lC, listOf #[] 0) :: (kPB, listOf #[] 0) :: (c.DX, c.dx P t1 1) :: (c.SG, listOf svs.toArray sn) :: fix), @LT.lt Nat _ q.1 h.objs.size := fun q hq => Heap.lt_size (N q hq).1
  refine ⟨0, _, tk, _, s₀.gens.size, gs, o, o, h.objs.size, ta, tb, tc, rfl, rfl, Nat.zero_le _, ⟨[], [], svs, 0, 0, sn, cs, t1, 1, ct, none, none, ?_, fun q hq => ?_, .nil, .nil, hs, hrd, hcl, rfl, .inl (cyP0 a b r p)⟩, ?_, ?_, fun s₁ h1 h2 h3 => hG s₁ h1 (h2 _ (.head _)) h3, ⟨?_, ?_, ?_, ?_⟩, ?_, hlt⟩
  · rw [cyP0]; exact F.keeps fun b o e => up _ _ (hk _ _ e)
  · have old : ∀ q ∈ ((lC, listOf #[] 0) :: (kPB, listOf #[] 0) :: (c.DX, c.dx P t1 1) :: (c.SG, listOf svs.toArray sn) :: fix), (h₁.push (genOb s₀.gens.size ta tb tc)).get? q.1 = some q.2 ∧ q.1 ≠ L ∧ g.get? q.1 = none := fun q hq => ⟨up _ _ (hk _ _ (N q hq).1), (N q hq).2⟩
    have hgen : (h₁.push (genOb s₀.gens.size ta tb tc)).get? h₁.objs.size = some (genOb s₀.gens.size ta tb tc) ∧ h₁.objs.size ≠ L ∧ g.get? h₁.objs.size = none := ⟨Heap.get?_push_size _ rfl, neA (by omega), hga0⟩
    have hgfo : (h₁.push (genOb s₀.gens.size ta tb tc)).get? h.objs.size = some o ∧ h.objs.size ≠ L ∧ g.get? h.objs.size = none := ⟨up _ _ ho, neA (by omega), hgf0⟩
    simp only [List.mem_cons] at hq
    rcases hq with h | h | h | h | h | h | h | h
    · exact old q (by rw [h]; exact .head _)
    · exact old q (by rw [h]; exact .tail _ (.head _))
    · exact old q (by rw [h]; exact .tail _ (.tail _ (.head _)))
    · exact old q (by rw [h]; exact .tail _ (.tail _ (.tail _ (.head _))))
    · rw [h]; exact hgen
    · rw [h]; exact hgfo
    · rw [h]; exact hgfo
    · exact old q (.tail _ (.tail _ (.tail _ (.tail _ h))))
  · simp
  · intro y hy
    rw [hge] at hy
    have : y = gs := by simpa using hy
    rw [this]; exact hbare
  · exact Nat.ne_of_gt (lt _ (.head _))
  · exact Nat.ne_of_gt (lt _ (.tail _ (.head _)))
  · exact Nat.ne_of_gt (lt _ (.tail _ (.tail _ (.head _))))
  · exact Nat.ne_of_gt (lt _ (.tail _ (.tail _ (.tail _ (.head _)))))
  · exact lt _ (.head _)
theorem call_gen {w : World} {p : Program} {loose : List Str} {mean : ExcName → Option Value} {mg mb : Str → Option Value} {dp un : Nat} {gd : Option (List Code)} {env : Env} {outer : List Env} {A A₀ : Around} {base h₀ : Heap} {L : Addr} {m : Str → Option Value} {s : Shared} {Q : Value → Shared → Prop} {E : Value → Shared → Prop}
    {l : Addr} {lv : List Value} {ys : List Int} {nn : Nat} {V : Nat → Int} {Yl En : Nat → Prop} (hA : A = tA dp un gd env outer) (B : Below A₀ base outer h₀) (F : Fr h₀ L s.heap m) (X₀ : (hd.heap_39 w.params).In h₀) (T : Top p loose mean mg mb h₀) (hf : env.frame = some L) (hke : env.scope.kind = .function)
    (hdp : dp + 9 < recursionLimit) (hun : un + 100 < cLine) (hi : IntsAre lv ys) (hV : GenV V Yl En 8 none ys) (hl : s.heap.get? l = some (listOf lv.toArray nn)) (hl0 : h₀.get? l = none)
    (h : ∀ (h₁ : Heap) (a b c : Tok) (gs : GenState) (o : Obj), (∀ b o, s.heap.get? b = some o → h₁.get? b = some o) → h₁.get? s.heap.objs.size = some o → s.heap.objs.size < h₁.objs.size → gs.bare = true →
      (∀ s₁ : Shared, (∀ b o, h₀.get? b = some o → s₁.heap.get? b = some o) → s₁.heap.get? s.heap.objs.size = some o → s₁.heap.get? l = some (listOf lv.toArray nn) →
        GenState.Goes (model Mine.rwv.row.prog w) A.in1 (fun n s₀ r s₁ => r = .ok (.ret .none) ∧ GP h₀ s.heap.objs.size En n s₀ s₁) (GY h₀ s.heap.objs.size l (listOf lv.toArray nn) V Yl) 8 gs (.send .none) s₁) →
      Q (.ref h₁.objs.size) { s with heap := h₁.push (genOb s.gens.size a b c), toks := s.toks + 1 + 1 + 1, gens := s.gens.push gs }) :
    wpAny (model Mine.rwv.row.prog w) A (call (.ref 21) [.ref l]) Q E s := by
  subst hA
  refine wpAny_call ?_
  exact c_gen w p loose mean mg mb l lv ys nn hi V Yl En hV (tA dp un gd env outer).in1 rfl dp un gd env outer A₀ base h₀ L m s _ B F X₀ hl hl0 T hf hke hdp hun (fun h₁ a b c gs o h1 h2 h3 h4 h5 => h h₁ a b c gs o h1 h2 h3 h4 h5)
theorem vP_sz (r p : Int) {j : Nat} (h : j ≤ 6) : vP r p (7 - j) = szP r p j := by
  unfold vP szP
  by_cases e : j = 0
  · subst e; rfl
  · rw [if_neg (by omega), if_neg e]
theorem ints_snoc1 {vs : List Value} {ns : List Int} (h : IntsAre vs ns) (k : Int) (t : Tok) : IntsAre (vs ++ [.int k t]) (ns ++ [k]) := by
  induction h with
  | nil => exact .cons k t .nil
  | cons a t' _ ih => exact .cons a t' ih
theorem loop_again {prog : Program} {w : World} {A' : Around} {g h : Heap} {L : Addr} {s₀ : Shared} {mf : Int → Tok → Option Value → Option Value → Str → Option Value} {fix : List (Addr × Obj)} {P : Params} {no a b r p kd K cy1 : Int} {c : Lx} {lC kPB l gf it it2 gi : Nat} {lobj o2 oi2 : Obj} {ta tb tc t1 ct ct' ty : Tok} {gs gs' : GenState} {gens : Array GenState} {j tk cn kn sn : Nat} {cvs kvs svs : List Value} {cs : List Nat} {ln : Int} {y : Str} {sv tv : Option Value}
    (hj5 : j ≤ 5) (hyl : ylP kd (7 - j)) (F : Fr g L h (mf (cyP a b r p (j + 1)) ct sv tv)) (N : News g L h ((lC, listOf (cvs ++ [Value.int cy1 ct']).toArray cn) :: (kPB, listOf (kvs ++ [Value.str y ty]).toArray kn) :: (c.DX, c.dx P t1 ln) :: (c.SG, listOf svs.toArray sn) :: (it, genOb gi ta tb tc) :: (gf, o2) :: (it2, oi2) :: fix))
    (hcv : IntsAre cvs ((List.range j).map fun i => cyP a b r p (i + 1))) (hc1 : cy1 = cyP a b r p (j + 1)) (hkv : StrsAre kvs ((List.range j).map fun i => nm (no - 7 + fgP (a + b) r p i))) (hy : y = nm (no - 7 + fgP (a + b) r p j)) (hsv : Signs svs cs.reverse) (hrd : RdS no a b r p (j + 1) cs) (hcl : cs.length ≤ 1000) (hbm : bumps cs ln = K)
    (hcy : cyP a b r p (j + 1) = 0 ∨ cyP a b r p (j + 1) = 1) (hgs : gens[gi]? = some gs) (hbare : ∀ y ∈ gens, y.bare = true) (hb2 : gs'.bare = true) (hG2 : 0 < 7 - j → Gives prog w A' g gf l lobj (vP r p) (ylP kd) (enP kd) (7 - j) [(gf, o2), (it2, oi2)] gs')
    (hne : @Ne Nat it2 lC ∧ @Ne Nat it2 kPB ∧ @Ne Nat it2 c.DX ∧ @Ne Nat it2 c.SG) (hgo : @LT.lt Nat _ lC gf ∧ @LT.lt Nat _ gf it) :
    Again (LoopI prog w A' g L s₀ mf fix P no a b r p kd K c lC kPB l gf lobj it) (8 - j) { s₀ with heap := h, toks := tk, gens := (gens.setIfInBounds gi .running).setIfInBounds gi gs' } := by
  refine ⟨8 - (j + 1), by omega, j + 1, h, tk, _, gi, gs', o2, oi2, it2, ta, tb, tc, rfl, rfl, ?_, ⟨_, _, svs, cn, kn, sn, cs, t1, ln, ct, sv, tv, F, N, ?_, ?_, hsv, hrd, hcl, hbm, hcy⟩, ?_, bare_set hbare rfl hb2, ?_, hne, hgo⟩
  · unfold plN
    rcases hyl with h | h
    · rw [if_pos h]; omega
    · split <;> omega
  · rw [range_snoc, hc1]; exact ints_snoc1 hcv _ _
  · rw [range_snoc, hy]; exact kct_snoc hkv
  · have hlt : gi < gens.size := by
      rcases Nat.lt_or_ge gi gens.size with h | h
      · exact h
      · rw [Array.getElem?_eq_none h] at hgs; cases hgs
    rw [Array.getElem?_setIfInBounds_self_of_lt (by simpa using hlt)]
  · have e : 8 - (j + 1) = 7 - j := by omega
    rw [e]; exact hG2 (by omega)
end Mine
end
section
open PySem PySem.W PyProof.Rows PySem.Calls
set_option Elab.async false
set_option compiler.extract_closed false
namespace Mine
set_option maxRecDepth 100000
/-- the ledger that the loop leaves alone lies off the three objects that the loop turns over -/
theorem fix_off {k c : Lx} {o0 o1 o2 o3 o4 o5 o6 o7 o8 o9 o10 o11 o12 o13 o14 o15 o16 o17 o18 o19 o20 o21 : Obj} {x dS DN D1 L : Nat} (hk : k.Ok) (hc : c.Ok) (hkc : c.PB < k.CELL) (h1 : x < c.CELL) (h2 : dS < c.CELL) (h3 : DN < c.CELL) (h4 : D1 < c.CELL) (h5 : L + 1 + 1 + 1 < c.CELL) (h8 : 82 < c.CELL) :
    (∀ q ∈ ([(k.DX, o0), (k.SG, o1), (k.X, o2), (k.ST, o3), (k.DS, o4), (k.LAM, o5), (k.CELL, o6), (c.PB, o7), (c.X, o8), (c.ST, o9), (c.DS, o10), (c.LAM, o11), (c.CELL, o12), (c.CO, o13), (82, o14), (x, o15), (dS, o16), (DN, o17), (D1, o18), (L + 1 + 1 + 1, o19), (L + 1 + 1, o20), (L + 1, o21)] : List (Addr × Obj)), q.1 ≠ c.DX ∧ q.1 ≠ c.SG) ∧ (∀ q ∈ ([(k.DX, o0), (k.SG, o1), (k.X, o2), (k.ST, o3), (k.DS, o4), (k.LAM, o5), (k.CELL, o6), (c.PB, o7), (c.X, o8), (c.ST, o9), (c.DS, o10), (c.LAM, o11), (c.CELL, o12), (c.CO, o13), (82, o14), (x, o15), (dS, o16), (DN, o17), (D1, o18), (L + 1 + 1 + 1, o19), (L + 1 + 1, o20), (L + 1, o21)] : List (Addr × Obj)), q.1 < k.PB) ∧ (∀ q ∈ ([(k.X, o2), (k.ST, o3), (k.DS, o4), (k.LAM, o5), (k.CELL, o6), (c.PB, o7), (c.X, o8), (c.ST, o9), (c.DS, o10), (c.LAM, o11), (c.CELL, o12), (c.CO, o13), (82, o14), (x, o15), (dS, o16), (DN, o17), (D1, o18), (L + 1 + 1 + 1, o19), (L + 1 + 1, o20), (L + 1, o21)] : List (Addr × Obj)), q.1 ≠ k.DX ∧ q.1 ≠ k.SG) := by
  obtain ⟨a1, a2, a3, a4, _, a6, a7, a8⟩ := hk.hord
  obtain ⟨b1, b2, b3, b4, b5, b6, b7, b8⟩ := hc.hord
  have h6 : L + 1 + 1 < c.CELL := Nat.lt_of_succ_lt h5
  have h7 : L + 1 < c.CELL := Nat.lt_of_succ_lt h6
  have eLAM : k.LAM < k.PB := Nat.lt_trans a6 (Nat.lt_trans a7 a8)
  have eST : k.ST < k.PB := Nat.lt_trans a4 eLAM
  have eDS : k.DS < k.PB := Nat.lt_trans a3 eST
  have eSG : k.SG < k.PB := Nat.lt_trans a2 eDS
  have eCELL : k.CELL < k.PB := Nat.lt_trans a1 eSG
  have eDX : k.DX < k.PB := Nat.lt_trans a7 a8
  have fDX : c.DX < k.CELL := Nat.lt_trans b7 (Nat.lt_trans b8 hkc)
  have cSG : c.SG < c.DX := Nat.lt_trans b2 (Nat.lt_trans b3 (Nat.lt_trans b4 b6))
  have fSG : c.SG < k.CELL := Nat.lt_trans cSG fDX
  have gSG : k.CELL < k.SG := a1
  have gDS : k.CELL < k.DS := Nat.lt_trans a1 a2
  have gST : k.CELL < k.ST := Nat.lt_trans gDS a3
  have gLAM : k.CELL < k.LAM := Nat.lt_trans gST a4
  have gDX : k.CELL < k.DX := Nat.lt_trans gLAM a6
  have gX : k.CELL < k.X := Nat.lt_trans gDX a7
  have sDS : c.SG < c.DS := b2
  have sST : c.SG < c.ST := Nat.lt_trans b2 b3
  have sLAM : c.SG < c.LAM := Nat.lt_trans sST b4
  have sX : c.SG < c.X := Nat.lt_trans cSG b7
  have sPB : c.SG < c.PB := Nat.lt_trans sX b8
  have xPB : c.DX < c.PB := Nat.lt_trans b7 b8
  have xST : c.ST < c.DX := Nat.lt_trans b4 b6
  have xDS : c.DS < c.DX := Nat.lt_trans b3 xST
  have xCELL : c.CELL < c.DX := Nat.lt_trans b1 cSG
  have nCO : c.CO < c.DX ∧ c.CO ≠ c.SG := by
    rcases b5 with b5 | ⟨b5, b5'⟩
    · exact ⟨Nat.lt_trans b5 xCELL, Nat.ne_of_lt (Nat.lt_trans b5 b1)⟩
    · exact ⟨Nat.lt_trans b5' b6, Nat.ne_of_gt (Nat.lt_trans sST b5)⟩
  have pk : c.CELL < k.PB := Nat.lt_trans xCELL (Nat.lt_trans fDX eCELL)
  have dk : c.DX < k.PB := Nat.lt_trans fDX eCELL
  have mSG : c.PB < k.SG := Nat.lt_trans hkc a1
  have mDX : c.PB < k.DX := Nat.lt_trans hkc gDX
  have nDX : c.DX < k.DX := Nat.lt_trans fDX gDX
  have nSG : c.DX < k.SG := Nat.lt_trans fDX a1
  have sgx : k.SG < k.DX := Nat.lt_trans a2 (Nat.lt_trans a3 (Nat.lt_trans a4 a6))
  have oDX : c.CELL < k.DX := Nat.lt_trans xCELL nDX
  have oSG : c.CELL < k.SG := Nat.lt_trans xCELL nSG
  exact ⟨List.forall_mem_cons.mpr ⟨⟨Nat.ne_of_gt (Nat.lt_trans fDX gDX), Nat.ne_of_gt (Nat.lt_trans fSG gDX)⟩, List.forall_mem_cons.mpr ⟨⟨Nat.ne_of_gt (Nat.lt_trans fDX gSG), Nat.ne_of_gt (Nat.lt_trans fSG gSG)⟩, List.forall_mem_cons.mpr ⟨⟨Nat.ne_of_gt (Nat.lt_trans fDX gX), Nat.ne_of_gt (Nat.lt_trans fSG gX)⟩, List.forall_mem_cons.mpr ⟨⟨Nat.ne_of_gt (Nat.lt_trans fDX gST), Nat.ne_of_gt (Nat.lt_trans fSG gST)⟩, List.forall_mem_cons.mpr ⟨⟨Nat.ne_of_gt (Nat.lt_trans fDX gDS), Nat.ne_of_gt (Nat.lt_trans fSG gDS)⟩, List.forall_mem_cons.mpr ⟨⟨Nat.ne_of_gt (Nat.lt_trans fDX gLAM), Nat.ne_of_gt (Nat.lt_trans fSG gLAM)⟩, List.forall_mem_cons.mpr ⟨⟨Nat.ne_of_gt fDX, Nat.ne_of_gt fSG⟩, List.forall_mem_cons.mpr ⟨⟨Nat.ne_of_gt xPB, Nat.ne_of_gt sPB⟩, List.forall_mem_cons.mpr ⟨⟨Nat.ne_of_gt b7, Nat.ne_of_gt sX⟩, List.forall_mem_cons.mpr ⟨⟨Nat.ne_of_lt xST, Nat.ne_of_gt sST⟩, List.forall_mem_cons.mpr ⟨⟨Nat.ne_of_lt xDS, Nat.ne_of_gt sDS⟩, List.forall_mem_cons.mpr ⟨⟨Nat.ne_of_lt b6, Nat.ne_of_gt sLAM⟩, List.forall_mem_cons.mpr ⟨⟨Nat.ne_of_lt xCELL, Nat.ne_of_lt b1⟩, List.forall_mem_cons.mpr ⟨⟨Nat.ne_of_lt nCO.1, nCO.2⟩, List.forall_mem_cons.mpr ⟨⟨Nat.ne_of_lt (Nat.lt_trans h8 xCELL), Nat.ne_of_lt (Nat.lt_trans h8 b1)⟩, List.forall_mem_cons.mpr ⟨⟨Nat.ne_of_lt (Nat.lt_trans h1 xCELL), Nat.ne_of_lt (Nat.lt_trans h1 b1)⟩, List.forall_mem_cons.mpr ⟨⟨Nat.ne_of_lt (Nat.lt_trans h2 xCELL), Nat.ne_of_lt (Nat.lt_trans h2 b1)⟩, List.forall_mem_cons.mpr ⟨⟨Nat.ne_of_lt (Nat.lt_trans h3 xCELL), Nat.ne_of_lt (Nat.lt_trans h3 b1)⟩, List.forall_mem_cons.mpr ⟨⟨Nat.ne_of_lt (Nat.lt_trans h4 xCELL), Nat.ne_of_lt (Nat.lt_trans h4 b1)⟩, List.forall_mem_cons.mpr ⟨⟨Nat.ne_of_lt (Nat.lt_trans h5 xCELL), Nat.ne_of_lt (Nat.lt_trans h5 b1)⟩, List.forall_mem_cons.mpr ⟨⟨Nat.ne_of_lt (Nat.lt_trans h6 xCELL), Nat.ne_of_lt (Nat.lt_trans h6 b1)⟩, List.forall_mem_cons.mpr ⟨⟨Nat.ne_of_lt (Nat.lt_trans h7 xCELL), Nat.ne_of_lt (Nat.lt_trans h7 b1)⟩, List.forall_mem_nil _⟩⟩⟩⟩⟩⟩⟩⟩⟩⟩⟩⟩⟩⟩⟩⟩⟩⟩⟩⟩⟩⟩,
    List.forall_mem_cons.mpr ⟨eDX, List.forall_mem_cons.mpr ⟨eSG, List.forall_mem_cons.mpr ⟨a8, List.forall_mem_cons.mpr ⟨eST, List.forall_mem_cons.mpr ⟨eDS, List.forall_mem_cons.mpr ⟨eLAM, List.forall_mem_cons.mpr ⟨eCELL, List.forall_mem_cons.mpr ⟨(Nat.lt_trans hkc eCELL), List.forall_mem_cons.mpr ⟨(Nat.lt_trans b8 (Nat.lt_trans hkc eCELL)), List.forall_mem_cons.mpr ⟨(Nat.lt_trans xST dk), List.forall_mem_cons.mpr ⟨(Nat.lt_trans xDS dk), List.forall_mem_cons.mpr ⟨(Nat.lt_trans b6 dk), List.forall_mem_cons.mpr ⟨pk, List.forall_mem_cons.mpr ⟨(Nat.lt_trans nCO.1 dk), List.forall_mem_cons.mpr ⟨(Nat.lt_trans h8 pk), List.forall_mem_cons.mpr ⟨(Nat.lt_trans h1 pk), List.forall_mem_cons.mpr ⟨(Nat.lt_trans h2 pk), List.forall_mem_cons.mpr ⟨(Nat.lt_trans h3 pk), List.forall_mem_cons.mpr ⟨(Nat.lt_trans h4 pk), List.forall_mem_cons.mpr ⟨(Nat.lt_trans h5 pk), List.forall_mem_cons.mpr ⟨(Nat.lt_trans h6 pk), List.forall_mem_cons.mpr ⟨(Nat.lt_trans h7 pk), List.forall_mem_nil _⟩⟩⟩⟩⟩⟩⟩⟩⟩⟩⟩⟩⟩⟩⟩⟩⟩⟩⟩⟩⟩⟩,
    List.forall_mem_cons.mpr ⟨⟨Nat.ne_of_gt a7, Nat.ne_of_gt (Nat.lt_trans sgx a7)⟩, List.forall_mem_cons.mpr ⟨⟨Nat.ne_of_lt (Nat.lt_trans a4 a6), Nat.ne_of_gt (Nat.lt_trans a2 a3)⟩, List.forall_mem_cons.mpr ⟨⟨Nat.ne_of_lt (Nat.lt_trans a3 (Nat.lt_trans a4 a6)), Nat.ne_of_gt a2⟩, List.forall_mem_cons.mpr ⟨⟨Nat.ne_of_lt a6, Nat.ne_of_gt (Nat.lt_trans a2 (Nat.lt_trans a3 a4))⟩, List.forall_mem_cons.mpr ⟨⟨Nat.ne_of_lt gDX, Nat.ne_of_lt a1⟩, List.forall_mem_cons.mpr ⟨⟨Nat.ne_of_lt mDX, Nat.ne_of_lt mSG⟩, List.forall_mem_cons.mpr ⟨⟨Nat.ne_of_lt (Nat.lt_trans b8 mDX), Nat.ne_of_lt (Nat.lt_trans b8 mSG)⟩, List.forall_mem_cons.mpr ⟨⟨Nat.ne_of_lt (Nat.lt_trans xST nDX), Nat.ne_of_lt (Nat.lt_trans xST nSG)⟩, List.forall_mem_cons.mpr ⟨⟨Nat.ne_of_lt (Nat.lt_trans xDS nDX), Nat.ne_of_lt (Nat.lt_trans xDS nSG)⟩, List.forall_mem_cons.mpr ⟨⟨Nat.ne_of_lt (Nat.lt_trans b6 nDX), Nat.ne_of_lt (Nat.lt_trans b6 nSG)⟩, List.forall_mem_cons.mpr ⟨⟨Nat.ne_of_lt (Nat.lt_trans xCELL nDX), Nat.ne_of_lt (Nat.lt_trans xCELL nSG)⟩, List.forall_mem_cons.mpr ⟨⟨Nat.ne_of_lt (Nat.lt_trans nCO.1 nDX), Nat.ne_of_lt (Nat.lt_trans nCO.1 nSG)⟩, List.forall_mem_cons.mpr ⟨⟨Nat.ne_of_lt (Nat.lt_trans h8 oDX), Nat.ne_of_lt (Nat.lt_trans h8 oSG)⟩, List.forall_mem_cons.mpr ⟨⟨Nat.ne_of_lt (Nat.lt_trans h1 oDX), Nat.ne_of_lt (Nat.lt_trans h1 oSG)⟩, List.forall_mem_cons.mpr ⟨⟨Nat.ne_of_lt (Nat.lt_trans h2 oDX), Nat.ne_of_lt (Nat.lt_trans h2 oSG)⟩, List.forall_mem_cons.mpr ⟨⟨Nat.ne_of_lt (Nat.lt_trans h3 oDX), Nat.ne_of_lt (Nat.lt_trans h3 oSG)⟩, List.forall_mem_cons.mpr ⟨⟨Nat.ne_of_lt (Nat.lt_trans h4 oDX), Nat.ne_of_lt (Nat.lt_trans h4 oSG)⟩, List.forall_mem_cons.mpr ⟨⟨Nat.ne_of_lt (Nat.lt_trans h5 oDX), Nat.ne_of_lt (Nat.lt_trans h5 oSG)⟩, List.forall_mem_cons.mpr ⟨⟨Nat.ne_of_lt (Nat.lt_trans h6 oDX), Nat.ne_of_lt (Nat.lt_trans h6 oSG)⟩, List.forall_mem_cons.mpr ⟨⟨Nat.ne_of_lt (Nat.lt_trans h7 oDX), Nat.ne_of_lt (Nat.lt_trans h7 oSG)⟩, List.forall_mem_nil _⟩⟩⟩⟩⟩⟩⟩⟩⟩⟩⟩⟩⟩⟩⟩⟩⟩⟩⟩⟩⟩
theorem it_cell {o : Obj} {v : Option Value} (h : o.data = .cell v) : ¬ IsIt o := fun hi => by obtain ⟨_, _, _, e⟩ := hi; rw [h] at e; cases e
theorem it_inst {a : Addr} : ¬ IsIt (instObj 59 a) := fun h => by obtain ⟨_, _, _, e⟩ := h; cases e
theorem it_str {P : Params} {j1 j2 j3 j4 j5 u1 u3 : Tok} {a b : Addr} : ¬ IsIt (strDict P j1 j2 j3 j4 j5 u1 u3 a b) := fun h => by obtain ⟨_, _, _, e⟩ := h; cases e
theorem it_lam {q : Str} {a b : Addr} {v w : Value} : ¬ IsIt (lamObj q a b v w) := fun h => by obtain ⟨_, _, _, e⟩ := h; cases e
theorem it_co {c : Lx} (h : c.Ok) : ¬ IsIt c.co := fun hi => by
  obtain ⟨_, _, _, e⟩ := hi
  have q1 := h.hcq
  rw [show c.cvs = _ from Data.fields.inj (h.hco.symm.trans e)] at q1
  cases q1
theorem it_gen {gi : Nat} {ta tb tc : Tok} : ¬ IsIt (genOb gi ta tb tc) := fun h => by obtain ⟨_, _, _, e⟩ := h; cases e
theorem it_tab {a : Addr} : ¬ IsIt (tab82 a) := fun h => by obtain ⟨_, _, _, e⟩ := h; cases e
/-- and no list iterator is in it -/
theorem fix_it {k c : Lx} {P : Params} {x dS DN D1 L tk1 nk cr : Nat} {vk rv dv vn vr : Array Value} {ok3 oNo oPr : Obj} {v1 v2 v3 : Option Value} (hk : k.Ok) (hc : c.Ok) (e3 : ok3.data = .cell v3) (e2 : oNo.data = .cell v2) (e1 : oPr.data = .cell v1) :
    ∀ q ∈ ([(k.DX, k.dx P tk1 1), (k.SG, listOf vk nk), (k.X, instObj 59 k.DX), (k.ST, instObj 59 k.DS), (k.DS, strDict P k.j1 k.j2 k.j3 k.j4 k.j5 k.u1 k.u3 k.PB1 k.LAM), (k.LAM, lamObj k.q k.CELL k.CO k.pm k.ct), (k.CELL, k.cellO), (c.PB, listOf #[] 0), (c.X, instObj 59 c.DX), (c.ST, instObj 59 c.DS), (c.DS, strDict P c.j1 c.j2 c.j3 c.j4 c.j5 c.u1 c.u3 c.PB1 c.LAM), (c.LAM, lamObj c.q c.CELL c.CO c.pm c.ct), (c.CELL, c.cellO), (c.CO, c.co), (82, tab82 c.CO), (x, listOf rv 0), (dS, listOf dv 0), (DN, listOf vn 0), (D1, listOf vr cr), (L + 1 + 1 + 1, ok3), (L + 1 + 1, oNo), (L + 1, oPr)] : List (Addr × Obj)), ¬ IsIt q.2 :=
  List.forall_mem_cons.mpr ⟨it_dx, List.forall_mem_cons.mpr ⟨it_list, List.forall_mem_cons.mpr ⟨it_inst, List.forall_mem_cons.mpr ⟨it_inst, List.forall_mem_cons.mpr ⟨it_str, List.forall_mem_cons.mpr ⟨it_lam, List.forall_mem_cons.mpr ⟨it_cell hk.hcell, List.forall_mem_cons.mpr ⟨it_list, List.forall_mem_cons.mpr ⟨it_inst, List.forall_mem_cons.mpr ⟨it_inst, List.forall_mem_cons.mpr ⟨it_str, List.forall_mem_cons.mpr ⟨it_lam, List.forall_mem_cons.mpr ⟨it_cell hc.hcell, List.forall_mem_cons.mpr ⟨it_co hc, List.forall_mem_cons.mpr ⟨it_tab, List.forall_mem_cons.mpr ⟨it_list, List.forall_mem_cons.mpr ⟨it_list, List.forall_mem_cons.mpr ⟨it_list, List.forall_mem_cons.mpr ⟨it_list, List.forall_mem_cons.mpr ⟨it_cell e3, List.forall_mem_cons.mpr ⟨it_cell e2, List.forall_mem_cons.mpr ⟨it_cell e1, List.forall_mem_nil _⟩⟩⟩⟩⟩⟩⟩⟩⟩⟩⟩⟩⟩⟩⟩⟩⟩⟩⟩⟩⟩⟩
theorem prF {pr : Int} (h : pr = 3 ∨ pr = 5 ∨ pr = 7) : 0 < pr ∧ pr ≤ 8 ∧ pr = (pr.toNat : Int) ∧ 2 ≤ pr.toNat ∧ pr.toNat < 100 := by rcases h with rfl | rfl | rfl <;> decide
end Mine
end
section
open PySem PySem.W PyProof.Rows PySem.Calls
set_option Elab.async false
set_option compiler.extract_closed false
namespace Mine
set_option maxRecDepth 100000
section
variable {prog : Program} {w : World} {A : Around} {h₀ : Heap} {L : Addr} {m : Str → Option Value} {env : Env} {elt : Expr} {x : Str} {scope : Scope} {cl : List (Str × Addr)} {s : Shared} {S : List (Addr × Obj) → Prop} {P : Nat → Value → Prop} {Fin : List Value → List (Addr × Obj) → Prop} {rest : List (Addr × Obj)}
/-- a block that takes one text after the other off a list -/
theorem found_rest {kvs : List Value} {ns : List Str} {kn n : Nat} {PB : Addr} (g : Str → Int) (hs : StrsAre kvs ns) (hn : n = ns.length) (hS : ∀ (us : List Value) knn, S ((PB, listOf us.toArray knn) :: rest))
    (turn : ∀ (y : Str) (t : Tok) (us : List Value) (knn : Nat) I oI C oC D m₂ ys h tk (E' : Value → Shared → Prop), y ∈ ns → us.length < ns.length → LCg.NsObj oC m₂ → Fr h₀ L h m → News h₀ L h ((I, oI) :: (C, oC) :: (D, LCg.lst ys) :: (PB, listOf (Value.str y t :: us).toArray knn) :: rest) →
      LCg.Off3 I C D ((PB, listOf (Value.str y t :: us).toArray knn) :: rest) → ((@Ne Nat I C) ∧ (@Ne Nat I D) ∧ (@Ne Nat C D)) →
      wpAny (model prog w) A (eval elt (compEnvC scope cl C env)) (LCg.CompEnd h₀ L m { s with heap := h, toks := tk } I oI C oC D (LCg.lst ys) S (fun yv news' => news' = (PB, listOf us.toArray (knn + 1)) :: rest ∧ ∃ t, yv = .int (g y) t)) E' { s with heap := h, toks := tk })
    (fin : ∀ ys knn, IntsAre ys (ns.map g) → Fin ys ((PB, listOf #[] knn) :: rest)) : LCg.CompRest prog w A h₀ L m env elt x scope cl s S P Fin n 0 [] ((PB, listOf kvs.toArray kn) :: rest) := by
  have key : ∀ (rs : List Str) (us : List Value) (done : List Str) (i : Nat) (ys : List Value) (knn : Nat), StrsAre us rs → IntsAre ys (done.map g) → ns = done ++ rs → LCg.CompRest prog w A h₀ L m env elt x scope cl s S P Fin rs.length i ys ((PB, listOf us.toArray knn) :: rest) := by
    intro rs
    induction rs with
    | nil =>
      intro us done i ys knn hu hy he
      cases hu
      rw [he, List.append_nil] at fin
      exact LCg.CompRest.zero (fin ys knn hy)
    | cons y r ih =>
      intro us done i ys knn hu hy he
      cases hu with
      | cons _ t hu =>
      rename_i us
      refine LCg.CompRest.succ ?_
      intro v I oI C oC D m₂ h tk E' hv hC hx F N off ne
      have hl : us.length = r.length := hu.length
      refine wpAny_mono (turn y t us knn I oI C oC D m₂ ys h tk E' (by rw [he]; simp) (by rw [he]; simp; omega) hC F N off ne) (fun z s₂ hq => ?_) fun _ _ e => e
      obtain ⟨h', tk', nw, e, F', N', off', hS', hn', t', hy'⟩ := hq
      rw [hn'] at N' off' hS'
      refine ⟨h', tk', _, e, F', N', off', hS', ?_⟩
      rw [hy']
      exact ih us (done ++ [y]) (i + 1) _ (knn + 1) hu (by rw [List.map_append]; exact ints_snoc1 hy _ _) (by rw [he]; simp)
  rw [hn]
  exact key ns kvs [] 0 [] kn hs .nil rfl
end
theorem take_figs (kd r p n : Int) : figsZ n (List.take (if kd = 0 then (6 : Int) else 5).toNat [r, p, p, p, p, p]) = (List.range (plN kd)).map fun i => fgP n r p i := by
  unfold plN
  by_cases h : kd = 0
  · rw [if_pos h, if_pos h]; rfl
  · rw [if_neg h, if_neg h]; rfl
theorem take_pos {kd r p : Int} (h1 : 0 < r ∧ r < 100) (h2 : 0 < p ∧ p < 100) : ∀ x ∈ List.take (if kd = 0 then (6 : Int) else 5).toNat [r, p, p, p, p, p], 0 < x ∧ x < 100 := by
  intro x hx
  have := List.mem_of_mem_take hx
  simp only [List.mem_cons, List.not_mem_nil, or_false] at this
  rcases this with rfl | rfl | rfl | rfl | rfl | rfl <;> assumption
theorem take_len (kd r p : Int) : (List.take (if kd = 0 then (6 : Int) else 5).toNat [r, p, p, p, p, p]).length < 100 := by
  rw [List.length_take]; simp only [List.length_cons, List.length_nil]; omega
theorem lucs_slice (P Q : Int) {len a n : Nat} (h : a + n ≤ len) : ((lucs P Q len).drop a).take n = (List.range n).map fun i => luc P Q (a + i) := by
  unfold lucs
  apply List.ext_getElem
  · simp; omega
  · intro i h1 h2
    simp
theorem run_slice {P Q a b n : Int} {len : Nat} (ha : 0 ≤ a) (hb : b = a + n) (hn : 0 ≤ n) (hl : b.toNat ≤ len) : ((lucs P Q len).drop a.toNat).take (min b.toNat (lucs P Q len).length - a.toNat) = (List.range n.toNat).map fun i => luc P Q (a.toNat + i) := by
  rw [lucs_len]
  have e : min b.toNat len - a.toNat = n.toNat := by omega
  rw [e]
  exact lucs_slice P Q (by omega)
theorem head_get {α : Type} (f : Nat → α) {n : Nat} (h : 0 < n) : ((List.range n).map f)[(0 : Int).toNat]? = some (f 0) := by
  show ((List.range n).map f)[0]? = _
  simp [h]
theorem nl_is : Str.ofString "\n" = (⟨#[10]⟩ : Str) := by decide +kernel
theorem bumps_cnt : ∀ (cs : List Nat) (ln : Int), bumps cs ln = ln + cnt 10 cs
  | [], ln => by show ln = ln + 0; omega
  | c :: r, ln => by
    show bumps r (bump c ln) = _
    rw [bumps_cnt r]
    have e : bump c ln = if c = 10 then ln + 1 else ln := by
      unfold bump
      have := isC_nl c
      unfold isC at this
      rw [this]
      by_cases h : c = 10
      · simp [h]
      · simp [h]
    rw [e]
    rw [cnt_cons]
    by_cases h : c = 10
    · rw [if_pos h]; simp [h]; try omega
    · rw [if_neg h]; simp [h]
theorem line_count {xt : Str} {ln : Int} (h : ln = bumps xt.cps.toList 1) : (ln == 1 + Txt.count xt (Str.ofString "\n")) = true := by
  rw [nl_is, count_cnt, h, bumps_cnt]
  simp
end Mine
end
section
open PySem PySem.W PyProof.Rows
set_option Elab.async false
set_option compiler.extract_closed false
namespace Mine
set_option maxRecDepth 100000
/-- what the law's rows are -/
noncomputable def RowOk (P Q p : Int) : Prop := ((1 ≤ P ∧ Q ≤ -1) ∨ (1 ≤ Q ∧ P = Q + 1)) ∧ Q % p ≠ 0
theorem rowOne_ok (k p r : Int) (hr : 0 < r) (hp : p = 3 ∨ p = 5 ∨ p = 7) : 1 ≤ rowOne k p r ∧ rowOne k p r % p ≠ 0 := by
  have h1 := Int.fmod_nonneg_of_pos (Int.fdiv k 2) hr
  unfold rowOne
  generalize Int.fmod (Int.fdiv k 2) r = x at *
  have e : (1 + x).fmod p = (1 + x) % p := Int.fmod_eq_emod_of_nonneg _ (by omega)
  rw [e]
  split
  · refine ⟨by omega, ?_⟩
    rcases hp with rfl | rfl | rfl <;> omega
  · exact ⟨by omega, by assumption⟩
theorem row_ok (gr p : Int) (hp : p = 3 ∨ p = 5 ∨ p = 7) : RowOk (rowP gr p) (rowQ gr p) p := by
  unfold RowOk rowP rowQ
  split
  · have := rowOne_ok gr p 30 (by decide) hp
    exact ⟨.inr ⟨this.1, rfl⟩, this.2⟩
  · have := rowOne_ok gr p 10 (by decide) hp
    have h1 := Int.fmod_nonneg_of_pos (Int.fdiv gr 20) (show (0:Int) < 30 by decide)
    refine ⟨.inl ⟨by omega, by omega⟩, ?_⟩
    intro h
    apply this.2
    rcases hp with rfl | rfl | rfl <;> omega
theorem luc_two (P Q : Int) (n : Nat) : luc P Q (n + 2) = P * luc P Q (n + 1) - Q * luc P Q n := rfl
theorem luc_grow {P Q p : Int} (h : RowOk P Q p) : ∀ n, 0 ≤ luc P Q n ∧ 0 < luc P Q (n + 1) := by
  rcases h.1 with ⟨hP, hQ⟩ | ⟨hQ, hP⟩
  · intro n
    induction n with
    | zero => exact ⟨Int.le_refl _, show (0 : Int) < 1 by decide⟩
    | succ n ih =>
      refine ⟨Int.le_of_lt ih.2, ?_⟩
      rw [luc_two]
      have h1 : 0 < P * luc P Q (n + 1) := Int.mul_pos (by omega) ih.2
      have h2 : 0 ≤ -Q * luc P Q n := Int.mul_nonneg (by omega) ih.1
      have h3 : -Q * luc P Q n = -(Q * luc P Q n) := Int.neg_mul _ _
      omega
  · have key : ∀ n, 0 ≤ luc P Q n ∧ 1 ≤ luc P Q (n + 1) - luc P Q n := by
      intro n
      induction n with
      | zero => exact ⟨Int.le_refl _, by show 1 ≤ (1 : Int) - 0; omega⟩
      | succ n ih =>
        refine ⟨by omega, ?_⟩
        rw [luc_two, hP]
        have h1 : (Q + 1) * luc P Q (n + 1) - Q * luc P Q n - luc P Q (n + 1) = Q * (luc P Q (n + 1) - luc P Q n) := by
          rw [Int.add_mul, Int.mul_sub]; omega
        rw [hP] at h1 ih
        rw [h1]
        have := Int.mul_le_mul_of_nonneg_left ih.2 (show 0 ≤ Q by omega)
        omega
    intro n
    have := key n
    omega
theorem luc_pos (gr pr : Int) (hp : pr = 3 ∨ pr = 5 ∨ pr = 7) : ∀ n, 1 ≤ n → 0 < luc (rowP gr pr) (rowQ gr pr) n := by
  intro n hn
  obtain ⟨m, rfl⟩ : ∃ m, n = m + 1 := ⟨n - 1, by omega⟩
  exact (luc_grow (row_ok gr pr hp) m).2
theorem luc_mod (P Q p : Int) : ∀ n, luc P Q n % p = luc (P % p) (Q % p) n % p ∧ luc P Q (n + 1) % p = luc (P % p) (Q % p) (n + 1) % p := by
  intro n
  induction n with
  | zero => exact ⟨rfl, rfl⟩
  | succ n ih =>
    refine ⟨ih.2, ?_⟩
    rw [luc_two, luc_two, Int.sub_emod, Int.mul_emod, Int.mul_emod Q, ih.1, ih.2]
    conv => rhs; rw [Int.sub_emod, Int.mul_emod, Int.mul_emod (Q % p), Int.emod_emod, Int.emod_emod]
theorem apparition : ([3, 5, 7] : List Nat).all (fun p => (List.range p).all fun a => (List.range p).all fun b => b == 0 || ((List.range 9).any fun R => decide (2 ≤ R) && luc (a : Int) (b : Int) R % (p : Int) == 0)) = true := by decide +kernel
theorem rank_some {P Q p : Int} (h : RowOk P Q p) (hp : p = 3 ∨ p = 5 ∨ p = 7) : ∃ R : Nat, 2 ≤ R ∧ R ≤ 8 ∧ luc P Q R % p = 0 := by
  have hp0 : 0 < p := by omega
  have a0 := Int.emod_nonneg P (show p ≠ 0 by omega)
  have a1 := Int.emod_lt_of_pos P hp0
  have b0 := Int.emod_nonneg Q (show p ≠ 0 by omega)
  have b1 := Int.emod_lt_of_pos Q hp0
  have hm : p.toNat ∈ ([3, 5, 7] : List Nat) := by rcases hp with rfl | rfl | rfl <;> decide
  have h1 := List.all_eq_true.mp apparition _ hm
  have h2 := List.all_eq_true.mp h1 (P % p).toNat (List.mem_range.mpr (by omega))
  have h3 := List.all_eq_true.mp h2 (Q % p).toNat (List.mem_range.mpr (by omega))
  have hb : ((Q % p).toNat == 0) = false := by
    rw [beq_eq_false_iff_ne]
    have := h.2
    omega
  rw [hb, Bool.false_or] at h3
  obtain ⟨R, hR, h4⟩ := List.any_eq_true.mp h3
  rw [Bool.and_eq_true] at h4
  have hR9 := List.mem_range.mp hR
  refine ⟨R, of_decide_eq_true h4.1, by omega, ?_⟩
  have h5 := eq_of_beq h4.2
  rw [Int.toNat_of_nonneg a0, Int.toNat_of_nonneg b0, Int.toNat_of_nonneg (Int.le_of_lt hp0)] at h5
  rw [(luc_mod P Q p R).1, h5]
theorem least_of {Pr : Nat → Prop} [DecidablePred Pr] : ∀ (n : Nat), Pr n → ∃ m, m ≤ n ∧ Pr m ∧ ∀ j, j < m → ¬ Pr j
  | n, h => by
    induction n using Nat.strongRecOn with
    | ind n ih =>
      by_cases q : ∃ j, j < n ∧ Pr j
      · obtain ⟨j, hj, hp⟩ := q
        obtain ⟨m, h1, h2, h3⟩ := ih j hj hp
        exact ⟨m, by omega, h2, h3⟩
      · exact ⟨n, Nat.le_refl _, h, fun j hj hp => q ⟨j, hj, hp⟩⟩
theorem rank_ex (gr pr : Int) (hp : pr = 3 ∨ pr = 5 ∨ pr = 7) : ∃ R : Nat, 2 ≤ R ∧ R ≤ 8 ∧ Int.fmod (luc (rowP gr pr) (rowQ gr pr) R) pr = 0 ∧ ∀ j, 1 ≤ j → j < R → Int.fmod (luc (rowP gr pr) (rowQ gr pr) j) pr ≠ 0 := by
  obtain ⟨R, h2, h8, h0⟩ := rank_some (row_ok gr pr hp) hp
  obtain ⟨m, hm, ⟨h1, h3⟩, hl⟩ := least_of (Pr := fun n => 1 ≤ n ∧ luc (rowP gr pr) (rowQ gr pr) n % pr = 0) R ⟨by omega, h0⟩
  have hfe : ∀ x : Int, x.fmod pr = x % pr := fun x => Int.fmod_eq_emod_of_nonneg _ (by omega)
  refine ⟨m, ?_, by omega, by rw [hfe]; exact h3, fun j hj1 hj2 e => hl j hj2 ⟨hj1, by rw [hfe] at e; exact e⟩⟩
  rcases Nat.lt_or_ge m 2 with h | h
  · have : m = 1 := by omega
    subst this
    exfalso
    have e : luc (rowP gr pr) (rowQ gr pr) 1 = 1 := rfl
    rw [e] at h3
    rcases hp with rfl | rfl | rfl <;> cases h3
  · exact h
end Mine
end
section
open PySem PySem.W PyProof.Rows
set_option Elab.async false
set_option compiler.extract_closed false
namespace Mine
set_option maxRecDepth 100000
section
variable {P Q : Int}
theorem luc_add (m : Nat) : ∀ n, luc P Q (m + n + 1) = luc P Q (m + 1) * luc P Q (n + 1) - Q * luc P Q m * luc P Q n ∧ luc P Q (m + n + 2) = luc P Q (m + 1) * luc P Q (n + 2) - Q * luc P Q m * luc P Q (n + 1) := by
  intro n
  induction n with
  | zero =>
    have e1 : luc P Q 1 = 1 := rfl
    have e0 : luc P Q 0 = 0 := rfl
    have e2 : luc P Q 2 = P * 1 - Q * 0 := rfl
    refine ⟨?_, ?_⟩
    · show luc P Q (m + 1) = luc P Q (m + 1) * luc P Q 1 - Q * luc P Q m * luc P Q 0
      rw [e1, e0]; grind
    · show luc P Q (m + 2) = luc P Q (m + 1) * luc P Q 2 - Q * luc P Q m * luc P Q 1
      rw [e1, e2, luc_two]; grind
  | succ n ih =>
    refine ⟨ih.2, ?_⟩
    have a1 : luc P Q (m + (n + 1) + 2) = P * luc P Q (m + n + 2) - Q * luc P Q (m + n + 1) := luc_two P Q (m + n + 1)
    have a2 : luc P Q (n + 1 + 2) = P * luc P Q (n + 2) - Q * luc P Q (n + 1) := luc_two P Q (n + 1)
    have a3 : luc P Q (n + 1 + 1) = P * luc P Q (n + 1) - Q * luc P Q n := luc_two P Q n
    rw [a1, a2, ih.1, ih.2, a3]
    grind
/-- by steps of N -/
theorem luc_step (N j : Nat) (hN : 1 ≤ N) : luc P Q (N + j) = luc P Q N * luc P Q (j + 1) + (-Q * luc P Q (N - 1)) * luc P Q j := by
  obtain ⟨M, rfl⟩ : ∃ M, N = M + 1 := ⟨N - 1, by omega⟩
  have h := (luc_add (P := P) (Q := Q) j M).1
  have e : M + 1 + j = j + M + 1 := by omega
  rw [e, h]
  show _ = luc P Q (M + 1) * luc P Q (j + 1) + -Q * luc P Q M * luc P Q j
  grind
/-- U(kN) is U(N) by z, and U(kN + 1) is y, to the second order in U(N) -/
theorem luc_mul (N : Nat) (hN : 1 ≤ N) (k : Nat) : ∃ z g b' t : Int, luc P Q (N * (k + 1)) = luc P Q N * z ∧ z = (k + 1 : Nat) * (-Q * luc P Q (N - 1)) ^ k + luc P Q N * b' + luc P Q N * luc P Q N * g ∧
    luc P Q (N * (k + 1) + 1) = (-Q * luc P Q (N - 1)) ^ (k + 1) + luc P Q N * ((k + 1 : Nat) * P * (-Q * luc P Q (N - 1)) ^ k) + luc P Q N * luc P Q N * t ∧ 2 * ((-Q * luc P Q (N - 1)) * b') = (k + 1 : Nat) * k * P * (-Q * luc P Q (N - 1)) ^ k := by
  generalize hW : luc P Q N = W
  generalize hc : -Q * luc P Q (N - 1) = c
  have stp : ∀ j, luc P Q (N + j) = W * luc P Q (j + 1) + c * luc P Q j := fun j => by rw [← hW, ← hc]; exact luc_step N j hN
  induction k with
  | zero =>
    refine ⟨1, 0, 0, 0, ?_, ?_, ?_, ?_⟩
    · rw [Nat.zero_add, Nat.mul_one, hW]; grind
    · simp
    · rw [Nat.zero_add, Nat.mul_one, stp 1]
      have e1 : luc P Q 1 = 1 := rfl
      have e2 : luc P Q (1 + 1) = P * 1 - Q * 0 := rfl
      rw [e1, e2]; simp; grind
    · simp
  | succ k ih =>
    obtain ⟨z, g, b, t, h1, h2, h3, h4⟩ := ih
    have e1 : N * (k + 1 + 1) = N + N * (k + 1) := by rw [Nat.mul_succ, Nat.add_comm]
    have e2 : N + N * (k + 1) + 1 = N + (N * (k + 1) + 1) := by omega
    have s1 := stp (N * (k + 1))
    have s2 := stp (N * (k + 1) + 1)
    have s3 : luc P Q (N * (k + 1) + 1 + 1) = P * luc P Q (N * (k + 1) + 1) - Q * luc P Q (N * (k + 1)) := luc_two P Q (N * (k + 1))
    refine ⟨luc P Q (N * (k + 1) + 1) + c * z, t + c * g, (k + 1 : Nat) * P * c ^ k + c * b, P * ((k + 1 : Nat) * P * c ^ k) + W * P * t - Q * z + c * t, ?_, ?_, ?_, ?_⟩
    · rw [e1, s1, h1]; grind
    · rw [h3, h2]
      have e5 : ((k + 1 + 1 : Nat) : Int) = ((k + 1 : Nat) : Int) + 1 := by omega
      rw [e5]
      simp only [Int.pow_succ]
      clear stp s1 s2 s3 h1 h2 h3 h4 e1 e2 e5 hW hc
      generalize ((k + 1 : Nat) : Int) = K
      generalize c ^ k = X
      grind
    · rw [e1, e2, s2, s3, h1, h3]
      have e5 : ((k + 1 + 1 : Nat) : Int) = ((k + 1 : Nat) : Int) + 1 := by omega
      rw [e5]
      simp only [Int.pow_succ]
      clear stp s1 s2 s3 h1 h2 h3 h4 e1 e2 e5 hW hc
      generalize ((k + 1 : Nat) : Int) = K
      generalize c ^ k = X
      grind
    · have e5 : ((k + 1 + 1 : Nat) : Int) = (k : Int) + 1 + 1 := by omega
      have e6 : ((k + 1 : Nat) : Int) = (k : Int) + 1 := by omega
      rw [e6] at h4
      rw [e5, e6]
      simp only [Int.pow_succ]
      clear stp s1 s2 s3 h1 h2 h3 e1 e2 e5 e6 hW hc
      generalize (k : Int) = K at *
      generalize c ^ k = X at *
      have h6 : 2 * (c * (c * b)) = (K + 1) * K * P * (X * c) := by
        have := congrArg (fun y => c * y) h4

        grind
      grind
end
end Mine
end
section
open PySem PySem.W PyProof.Rows
set_option Elab.async false
set_option compiler.extract_closed false
namespace Mine
set_option maxRecDepth 100000
theorem prime_mul {p : Int} (hp : p = 3 ∨ p = 5 ∨ p = 7) {a b : Int} (h : a * b % p = 0) : a % p = 0 ∨ b % p = 0 := by
  have hp0 : 0 < p := by omega
  have a0 := Int.emod_nonneg a (show p ≠ 0 by omega)
  have a1 := Int.emod_lt_of_pos a hp0
  have b0 := Int.emod_nonneg b (show p ≠ 0 by omega)
  have b1 := Int.emod_lt_of_pos b hp0
  rw [Int.mul_emod] at h
  generalize a % p = x at *
  generalize b % p = y at *
  obtain ⟨m, rfl⟩ := Int.eq_ofNat_of_zero_le a0
  obtain ⟨n, rfl⟩ := Int.eq_ofNat_of_zero_le b0
  rcases hp with rfl | rfl | rfl
  · have : ∀ m : Nat, m < 3 → ∀ n : Nat, n < 3 → (m : Int) * (n : Int) % 3 = 0 → (m : Int) = 0 ∨ (n : Int) = 0 := by decide
    exact this m (by omega) n (by omega) h
  · have : ∀ m : Nat, m < 5 → ∀ n : Nat, n < 5 → (m : Int) * (n : Int) % 5 = 0 → (m : Int) = 0 ∨ (n : Int) = 0 := by decide
    exact this m (by omega) n (by omega) h
  · have : ∀ m : Nat, m < 7 → ∀ n : Nat, n < 7 → (m : Int) * (n : Int) % 7 = 0 → (m : Int) = 0 ∨ (n : Int) = 0 := by decide
    exact this m (by omega) n (by omega) h
section
variable {P Q p : Int} {r : Nat}
/-- the rank: the least place that p divides -/
noncomputable def Rank (P Q p : Int) (r : Nat) : Prop := 2 ≤ r ∧ luc P Q r % p = 0 ∧ ∀ j, 1 ≤ j → j < r → luc P Q j % p ≠ 0
theorem dvd_back (hp : p = 3 ∨ p = 5 ∨ p = 7) (hQ : Q % p ≠ 0) (hr : Rank P Q p r) (m : Nat) : luc P Q (r + m) % p = 0 → luc P Q m % p = 0 := by
  intro h
  have hs := luc_step (P := P) (Q := Q) r m (by have := hr.1; omega)
  rw [hs, Int.add_emod, Int.mul_emod, hr.2.1, Int.zero_mul, Int.zero_emod, Int.zero_add, Int.emod_emod] at h
  rcases prime_mul hp h with h | h
  · rcases prime_mul hp h with h | h
    · exfalso; apply hQ
      have := Int.emod_nonneg Q (show p ≠ 0 by omega)
      rcases hp with rfl | rfl | rfl <;> omega
    · exact absurd h (hr.2.2 (r - 1) (by have := hr.1; omega) (by have := hr.1; omega))
  · exact h
theorem dvd_rank (hp : p = 3 ∨ p = 5 ∨ p = 7) (hQ : Q % p ≠ 0) (hr : Rank P Q p r) : ∀ n, luc P Q n % p = 0 → n % r = 0 := by
  intro n
  induction n using Nat.strongRecOn with
  | ind n ih =>
    intro h
    rcases Nat.lt_or_ge n r with hlt | hge
    · rcases Nat.eq_zero_or_pos n with h0 | h0
      · subst h0; exact Nat.zero_mod r
      · exact absurd h (hr.2.2 n h0 hlt)
    · obtain ⟨m, rfl⟩ : ∃ m, n = r + m := ⟨n - r, by omega⟩
      have := ih m (by have := hr.1; omega) (dvd_back hp hQ hr m h)
      rw [Nat.add_mod_left]; exact this
theorem pow_not {c : Int} (hp : p = 3 ∨ p = 5 ∨ p = 7) (hc : c % p ≠ 0) : ∀ k : Nat, c ^ k % p ≠ 0 := by
  intro k
  induction k with
  | zero => rw [Int.pow_zero]; rcases hp with rfl | rfl | rfl <;> decide
  | succ k ih =>
    rw [Int.pow_succ]
    intro h
    rcases prime_mul hp h with h | h
    · exact ih h
    · exact hc h
/-- by a factor that p does not divide, and by p -/
theorem luc_fac (hp : p = 3 ∨ p = 5 ∨ p = 7) (hQ : Q % p ≠ 0) (hr : Rank P Q p r) {N : Nat} (hN : 1 ≤ N) (hd : luc P Q N % p = 0) (k : Nat) :
    ((k + 1 : Nat) % p.toNat ≠ 0 → ∃ z, luc P Q (N * (k + 1)) = luc P Q N * z ∧ z % p ≠ 0) ∧ ((k + 1 : Nat) = p.toNat → ∃ z, luc P Q (N * (k + 1)) = luc P Q N * (p * z) ∧ z % p ≠ 0) := by
  have hnr := dvd_rank hp hQ hr N hd
  have hr2 := hr.1
  have hc : (-Q * luc P Q (N - 1)) % p ≠ 0 := by
    intro h
    rcases prime_mul hp h with h | h
    · apply hQ
      rcases hp with rfl | rfl | rfl <;> omega
    · have h1 := dvd_rank hp hQ hr (N - 1) h
      obtain ⟨q, hq⟩ := Nat.dvd_of_mod_eq_zero hnr
      obtain ⟨q', hq'⟩ := Nat.dvd_of_mod_eq_zero h1
      have : r * q = r * q' + 1 := by omega
      have h3 : (r * q) % r = (r * q' + 1) % r := by rw [this]
      rw [Nat.mul_mod_right, Nat.mul_add_mod, Nat.mod_eq_of_lt (by omega)] at h3
      omega
  obtain ⟨z, g, b, t, h1, h2, h3, h4⟩ := luc_mul (P := P) (Q := Q) N hN k
  have hpk := pow_not hp hc k
  generalize -Q * luc P Q (N - 1) = c at *
  obtain ⟨W', hW'⟩ : ∃ W', luc P Q N = p * W' := ⟨luc P Q N / p, by have := Int.mul_ediv_add_emod (luc P Q N) p; omega⟩
  have hp0 : 0 < p := by omega
  have hpt : ((p.toNat : Nat) : Int) = p := Int.toNat_of_nonneg (Int.le_of_lt hp0)
  constructor
  · intro hk
    refine ⟨z, h1, fun hz => ?_⟩
    have hkz : ((k + 1 : Nat) : Int) * c ^ k % p = 0 := by
      have e : ((k + 1 : Nat) : Int) * c ^ k = z - p * (W' * b + W' * luc P Q N * g) := by rw [h2, hW']; grind
      rw [e, Int.sub_emod, hz, Int.mul_emod_right]; rfl
    rcases prime_mul hp hkz with h | h
    · apply hk
      have : (((k + 1) % p.toNat : Nat) : Int) = 0 := by rw [Int.natCast_emod, hpt]; exact h
      exact_mod_cast this
    · exact hpk h
  · intro hk
    have hkp : ((k + 1 : Nat) : Int) = p := by rw [hk, hpt]
    have hb : b % p = 0 := by
      have e : 2 * (c * b) % p = 0 := by
        rw [h4, hkp, Int.mul_assoc, Int.mul_assoc, Int.mul_emod_right]
      rcases prime_mul hp e with h | h
      · rcases hp with rfl | rfl | rfl <;> cases h
      · rcases prime_mul hp h with h | h
        · exact absurd h hc
        · exact h
    obtain ⟨b', hb'⟩ : ∃ b', b = p * b' := ⟨b / p, by have := Int.mul_ediv_add_emod b p; omega⟩
    refine ⟨c ^ k + p * (W' * b' + W' * W' * g), ?_, fun h => ?_⟩
    · rw [h1, h2, hkp, hb', hW']; grind
    · rw [Int.add_emod, Int.mul_emod_right, Int.add_zero, Int.emod_emod] at h
      exact hpk h
end
theorem nc3 {q : Nat} (h : q = 3 ∨ q = 5 ∨ q = 7) : (q : Int) = 3 ∨ (q : Int) = 5 ∨ (q : Int) = 7 := by rcases h with rfl | rfl | rfl <;> decide
theorem nat_prime {q a b : Nat} (hq : q = 3 ∨ q = 5 ∨ q = 7) (h : a * b % q = 0) : a % q = 0 ∨ b % q = 0 := by
  have := prime_mul (p := (q : Int)) (a := a) (b := b) (nc3 hq) (by exact_mod_cast h)
  rcases this with h | h
  · exact .inl (by exact_mod_cast h)
  · exact .inr (by exact_mod_cast h)
theorem vp_cop {q : Nat} (hq : q = 3 ∨ q = 5 ∨ q = 7) {z : Nat} (hz : z % q ≠ 0) : ∀ w, 0 < w → vp q (w * z) = vp q w := by
  intro w
  induction w using Nat.strongRecOn with
  | ind w ih =>
    intro hw
    have hz0 : 0 < z := Nat.pos_of_ne_zero fun e => hz (by rw [e]; exact Nat.zero_mod q)
    by_cases h : w % q = 0
    · obtain ⟨v, rfl⟩ := Nat.dvd_of_mod_eq_zero h
      have hv : 0 < v := Nat.pos_of_ne_zero fun e => by rw [e] at hw; simp at hw
      have hq0 : 0 < q := by omega
      rw [vp_step (by omega) (Nat.mul_pos hw hz0) (by rw [Nat.mul_assoc, Nat.mul_mod_right]), vp_step (by omega) hw h, Nat.mul_assoc, Nat.mul_div_cancel_left _ hq0, Nat.mul_div_cancel_left _ hq0]
      rw [ih v (by have : v * 2 ≤ v * q := Nat.mul_le_mul_left v (by omega); rw [Nat.mul_comm q v]; omega) hv]
    · rw [vp_stop h, vp_stop]
      intro h2
      rcases nat_prime hq h2 with h3 | h3
      · exact h h3
      · exact hz h3
theorem vp_q {q : Nat} (hq : q = 3 ∨ q = 5 ∨ q = 7) {w : Nat} (hw : 0 < w) : vp q (w * q) = vp q w + 1 := by
  have hq0 : 0 < q := by omega
  rw [vp_step (by omega) (Nat.mul_pos hw hq0) (Nat.mul_mod_left w q), Nat.mul_div_cancel _ hq0]
end Mine
end
section
open PySem PySem.W PyProof.Rows
set_option Elab.async false
set_option compiler.extract_closed false
namespace Mine
set_option maxRecDepth 100000
theorem pos_mul {a b : Int} (h : 0 < a * b) (ha : 0 < a) : 0 < b := by
  rcases Int.lt_or_le 0 b with h1 | h1
  · exact h1
  · have := Int.mul_le_mul_of_nonneg_left h1 (Int.le_of_lt ha)
    rw [Int.mul_zero] at this
    omega
theorem tn3 {p : Int} (h : p = 3 ∨ p = 5 ∨ p = 7) : p.toNat = 3 ∨ p.toNat = 5 ∨ p.toNat = 7 := by rcases h with rfl | rfl | rfl <;> decide
theorem ps3 {p : Int} (h : p = 3 ∨ p = 5 ∨ p = 7) : 0 < p := by rcases h with rfl | rfl | rfl <;> decide
theorem vluc {P Q p : Int} {r : Nat} (hp : p = 3 ∨ p = 5 ∨ p = 7) (hok : RowOk P Q p) (hr : Rank P Q p r) : ∀ k : Nat, 1 ≤ k → luc P Q (r * k) % p = 0 ∧ vp p.toNat (luc P Q (r * k)).toNat = vp p.toNat (luc P Q r).toNat + vp p.toNat k := by
  have hr2 := hr.1
  have hp0 : 0 < p := ps3 hp
  have hq : p.toNat = 3 ∨ p.toNat = 5 ∨ p.toNat = 7 := tn3 hp
  have hpt : ((p.toNat : Nat) : Int) = p := Int.toNat_of_nonneg (Int.le_of_lt hp0)
  have pos : ∀ n, 1 ≤ n → 0 < luc P Q n := fun n hn => by
    obtain ⟨m, rfl⟩ : ∃ m, n = m + 1 := ⟨n - 1, by omega⟩
    exact (luc_grow hok m).2
  intro k
  induction k using Nat.strongRecOn with
  | ind k ih =>
    intro hk
    by_cases h : k % p.toNat = 0
    · obtain ⟨v, rfl⟩ := Nat.dvd_of_mod_eq_zero h
      have hv : 1 ≤ v := Nat.pos_of_ne_zero fun e => by rw [e] at hk; simp at hk
      have hlt : v < p.toNat * v := by
        have : 2 * v ≤ p.toNat * v := Nat.mul_le_mul_right v (by omega)
        omega
      obtain ⟨i1, i2⟩ := ih v hlt hv
      have hN : 1 ≤ r * v := Nat.mul_pos (by omega) hv
      obtain ⟨m, hm⟩ : ∃ m, p.toNat = m + 1 := ⟨p.toNat - 1, by omega⟩
      obtain ⟨z, h1, h2⟩ := (luc_fac hp hok.2 hr hN i1 m).2 hm.symm
      have e : r * (p.toNat * v) = r * v * (m + 1) := by rw [hm, Nat.mul_comm (m + 1) v, Nat.mul_assoc]
      have hW := pos _ hN
      have hWz := pos (r * v * (m + 1)) (Nat.mul_pos hN (by omega))
      rw [e]
      rw [h1] at hWz ⊢
      have hz : 0 < p * z := pos_mul hWz hW
      have hz' : 0 < z := pos_mul hz hp0
      refine ⟨by rw [Int.mul_emod, i1, Int.zero_mul]; rfl, ?_⟩
      have et : (luc P Q (r * v) * (p * z)).toNat = (luc P Q (r * v)).toNat * z.toNat * p.toNat := by
        rw [Int.toNat_mul (Int.le_of_lt hW) (Int.le_of_lt hz), Int.toNat_mul (Int.le_of_lt hp0) (Int.le_of_lt hz'), Nat.mul_comm p.toNat z.toNat, Nat.mul_assoc]
      have hzm : z.toNat % p.toNat ≠ 0 := fun h3 => h2 (by
        have : ((z.toNat % p.toNat : Nat) : Int) = 0 := by rw [h3]; rfl
        rw [Int.natCast_emod, hpt, Int.toNat_of_nonneg (Int.le_of_lt hz')] at this
        exact this)
      have hWn : 0 < (luc P Q (r * v)).toNat := by omega
      have hzn : 0 < z.toNat := by omega
      rw [et, vp_q hq (Nat.mul_pos hWn hzn), vp_cop hq hzm _ hWn, i2, Nat.mul_comm p.toNat v, vp_q hq hv]
      omega
    · obtain ⟨m, rfl⟩ : ∃ m, k = m + 1 := ⟨k - 1, by omega⟩
      obtain ⟨z, h1, h2⟩ := (luc_fac hp hok.2 hr (N := r) (by omega) hr.2.1 m).1 h
      have hW := pos r (by omega)
      have hWz := pos (r * (m + 1)) (Nat.mul_pos (by omega) (by omega))
      rw [h1] at hWz ⊢
      have hz' : 0 < z := pos_mul hWz hW
      refine ⟨by rw [Int.mul_emod, hr.2.1, Int.zero_mul]; rfl, ?_⟩
      have hzm : z.toNat % p.toNat ≠ 0 := fun h3 => h2 (by
        have : ((z.toNat % p.toNat : Nat) : Int) = 0 := by rw [h3]; rfl
        rw [Int.natCast_emod, hpt, Int.toNat_of_nonneg (Int.le_of_lt hz')] at this
        exact this)
      rw [Int.toNat_mul (Int.le_of_lt hW) (Int.le_of_lt hz'), vp_cop hq hzm _ (by omega), vp_stop h, Nat.add_zero]
/-- the valuation with a bound on the turns -/
noncomputable def vq : Nat → Nat → Nat → Nat
  | 0, _, _ => 0
  | f + 1, q, n => if n % q = 0 then vq f q (n / q) + 1 else 0
theorem vp_vq {q : Nat} (hq : 2 ≤ q) : ∀ (f n : Nat), 0 < n → n < 2 ^ f → vp q n = vq f q n
  | 0, n, h0, h1 => by simp at h1; omega
  | f + 1, n, h0, h1 => by
    unfold vq
    by_cases h : n % q = 0
    · rw [if_pos h, vp_step hq h0 h, vp_vq hq f (n / q) (Nat.div_pos (Nat.le_of_dvd h0 (Nat.dvd_of_mod_eq_zero h)) (by omega)) ?_]
      have : n / q ≤ n / 2 := Nat.div_le_div_left hq (by omega)
      rw [Nat.pow_succ] at h1
      omega
    · rw [if_neg h, vp_stop h]
noncomputable def gq (q M : Nat) : Nat := M / q + M / q / q + M / q / q / q + M / q / q / q / q
theorem gq_table : ([3, 5, 7] : List Nat).all (fun q => (List.range 62).all fun k => gq q (k + 1) == gq q k + vq 6 q (k + 1)) = true := by decide +kernel
theorem gq_step {q k : Nat} (hq : q = 3 ∨ q = 5 ∨ q = 7) (hk : k < 62) : gq q (k + 1) = gq q k + vp q (k + 1) := by
  have hm : q ∈ ([3, 5, 7] : List Nat) := by rcases hq with rfl | rfl | rfl <;> decide
  have h1 := List.all_eq_true.mp (List.all_eq_true.mp gq_table _ hm) k (List.mem_range.mpr hk)
  rw [vp_vq (by omega) 6 (k + 1) (by omega) (by omega)]
  exact eq_of_beq h1
theorem div_succ_ne {r n : Nat} (hr : 2 ≤ r) (h : (n + 1) % r ≠ 0) : (n + 1) / r = n / r := by
  have h1 := Nat.div_add_mod (n + 1) r
  have h2 := Nat.mod_lt (n + 1) (show 0 < r by omega)
  generalize (n + 1) / r = a at *
  generalize (n + 1) % r = b at *
  have h3 : n = r * a + (b - 1) := by omega
  rw [h3, Nat.mul_add_div (by omega), Nat.div_eq_of_lt (by omega), Nat.add_zero]
theorem div_succ_eq {r n k : Nat} (hr : 2 ≤ r) (h : n + 1 = r * (k + 1)) : n / r = k ∧ (n + 1) / r = k + 1 := by
  constructor
  · have e : n = r * k + (r - 1) := by rw [Nat.mul_succ] at h; omega
    rw [e, Nat.mul_add_div (by omega), Nat.div_eq_of_lt (by omega), Nat.add_zero]
  · rw [h, Nat.mul_div_cancel_left _ (by omega)]
/-- what the first n terms hold of p -/
theorem sum_luc {P Q p : Int} {r : Nat} (hp : p = 3 ∨ p = 5 ∨ p = 7) (hok : RowOk P Q p) (hr : Rank P Q p r) {n : Nat} (hn : n + 1 < 124) :
    vp p.toNat (luc P Q r).toNat * ((n + 1) / r) + gq p.toNat ((n + 1) / r) = vp p.toNat (luc P Q r).toNat * (n / r) + gq p.toNat (n / r) + vp p.toNat (luc P Q (n + 1)).toNat := by
  have hr2 := hr.1
  have hq : p.toNat = 3 ∨ p.toNat = 5 ∨ p.toNat = 7 := tn3 hp
  have hp0 : 0 < p := ps3 hp
  have hpt : ((p.toNat : Nat) : Int) = p := Int.toNat_of_nonneg (Int.le_of_lt hp0)
  by_cases h : (n + 1) % r = 0
  · obtain ⟨k, hk⟩ := Nat.dvd_of_mod_eq_zero h
    obtain ⟨m, rfl⟩ : ∃ m, k = m + 1 := ⟨k - 1, by
      have : k ≠ 0 := fun e => by rw [e] at hk; simp at hk
      omega⟩
    obtain ⟨e1, e2⟩ := div_succ_eq hr2 hk
    have hm : m < 62 := by
      have : 2 * (m + 1) ≤ r * (m + 1) := Nat.mul_le_mul_right _ hr2
      omega
    rw [e1, e2, hk, (vluc hp hok hr (m + 1) (by omega)).2, gq_step hq hm, Nat.mul_succ]
    omega
  · rw [div_succ_ne hr2 h]
    have : vp p.toNat (luc P Q (n + 1)).toNat = 0 := by
      refine vp_stop fun h2 => h (dvd_rank hp hok.2 hr _ ?_)
      have hpos : 0 < luc P Q (n + 1) := (luc_grow hok n).2
      have h3 : (((luc P Q (n + 1)).toNat % p.toNat : Nat) : Int) = 0 := by rw [h2]; rfl
      rw [Int.natCast_emod, hpt, Int.toNat_of_nonneg (Int.le_of_lt hpos)] at h3
      exact h3
    rw [this]; rfl
theorem sum_run {P Q p : Int} {r : Nat} (hp : p = 3 ∨ p = 5 ∨ p = 7) (hok : RowOk P Q p) (hr : Rank P Q p r) (a : Nat) : ∀ n : Nat, a + n < 124 →
    (((List.range n).map fun i => luc P Q (a + 1 + i)).map fun x => (vp p.toNat x.toNat : Int)).sum = ((vp p.toNat (luc P Q r).toNat * ((a + n) / r) + gq p.toNat ((a + n) / r) : Nat) : Int) - ((vp p.toNat (luc P Q r).toNat * (a / r) + gq p.toNat (a / r) : Nat) : Int)
  | 0, _ => by simp
  | n + 1, h => by
    have ih := sum_run hp hok hr a n (by omega)
    rw [List.range_succ, List.map_append, List.map_append, List.sum_append, ih]
    have hs := sum_luc hp hok hr (n := a + n) (by omega)
    have e : a + 1 + n = a + n + 1 := by omega
    simp only [List.map_cons, List.map_nil, List.sum_cons, List.sum_nil]
    rw [e]
    show _ = ((vp p.toNat (luc P Q r).toNat * ((a + n + 1) / r) + gq p.toNat ((a + n + 1) / r) : Nat) : Int) - _
    rw [hs]
    omega
end Mine
end
section
open PySem PySem.W PyProof.Rows
set_option Elab.async false
set_option compiler.extract_closed false
namespace Mine
set_option maxRecDepth 100000
noncomputable def dnN (n r q : Nat) : Nat → Nat
  | 0 => n / r
  | i + 1 => dnN n r q i / q
theorem dvP_nat (n r q : Nat) : ∀ i, dvP (n : Int) (r : Int) (q : Int) (i + 1) = ((dnN n r q i : Nat) : Int)
  | 0 => by show Int.fdiv (n : Int) (szP r q 0) = _; rw [show szP (r : Int) (q : Int) 0 = (r : Int) from rfl, fdiv_nat]; rfl
  | i + 1 => by
    show Int.fdiv (dvP (n : Int) (r : Int) (q : Int) (i + 1)) (szP r q (i + 1)) = _
    rw [dvP_nat n r q i, show szP (r : Int) (q : Int) (i + 1) = (q : Int) from if_neg (by omega), fdiv_nat]; rfl
theorem gq_dn (n r q : Nat) : gq q (n / r) = dnN n r q 1 + dnN n r q 2 + dnN n r q 3 + dnN n r q 4 := rfl
theorem kw_law {gr pr few more kd : Int} {r : Nat} (hp : pr = 3 ∨ pr = 5 ∨ pr = 7) (hf : 0 ≤ few ∧ few < 60) (hm : 0 ≤ more ∧ more < 60) (h2 : 2 ≤ r) (h8 : r ≤ 8) (h0 : Int.fmod (luc (rowP gr pr) (rowQ gr pr) r) pr = 0) (hn : ∀ j, 1 ≤ j → j < r → Int.fmod (luc (rowP gr pr) (rowQ gr pr) j) pr ≠ 0) :
    (((List.range few.toNat).map fun i => luc (rowP gr pr) (rowQ gr pr) (more.toNat + 1 + i)).map fun x => (vp pr.toNat x.toNat : Int)).sum - (((List.range few.toNat).map fun i => luc (rowP gr pr) (rowQ gr pr) (1 + i)).map fun x => (vp pr.toNat x.toNat : Int)).sum =
      (vp pr.toNat (luc (rowP gr pr) (rowQ gr pr) r).toNat : Int) * cyP few more r pr 1 + (((List.range (plN kd)).map fun i => cyP few more r pr (i + 1)).drop 1).sum := by
  have hok := row_ok gr pr hp
  have hfe : ∀ x : Int, x.fmod pr = x % pr := fun x => Int.fmod_eq_emod_of_nonneg _ (by omega)
  have hr : Rank (rowP gr pr) (rowQ gr pr) pr r := ⟨h2, by rw [← hfe]; exact h0, fun j a b => by rw [← hfe]; exact hn j a b⟩
  obtain ⟨f, rfl⟩ := Int.eq_ofNat_of_zero_le hf.1
  obtain ⟨m, rfl⟩ := Int.eq_ofNat_of_zero_le hm.1
  obtain ⟨q, rfl⟩ := Int.eq_ofNat_of_zero_le (show 0 ≤ pr by omega)
  have s1 := sum_run hp hok hr m f (by omega)
  have s2 := sum_run hp hok hr 0 f (by omega)
  rw [show (f : Int).toNat = f from rfl, show (m : Int).toNat = m from rfl]
  have e1 : (fun i => luc (rowP gr q) (rowQ gr q) (1 + i)) = fun i => luc (rowP gr q) (rowQ gr q) (0 + 1 + i) := by funext i; rw [Nat.zero_add]
  rw [e1, s1, s2]
  have cy : ∀ i, cyP (f : Int) (m : Int) (r : Int) (q : Int) (i + 1) = ((dnN (m + f) r q i : Nat) : Int) - ((dnN f r q i : Nat) : Int) - ((dnN m r q i : Nat) : Int) := fun i => by
    unfold cyP
    rw [show (f : Int) + (m : Int) = ((m + f : Nat) : Int) by omega, dvP_nat, dvP_nat, dvP_nat]
  have z : ∀ n : Nat, n < 120 → dnN n r q 5 = 0 := fun n hn => by
    have h := (fgP5 (n := (n : Int)) (r := (r : Int)) (p := (q : Int)) ⟨by omega, by omega⟩ hp ⟨by omega, by omega⟩).2
    rw [dvP_nat] at h
    have h' : dnN n r q 4 = 0 := by exact_mod_cast h
    show dnN n r q 4 / q = 0
    rw [h', Nat.zero_div]
  have tail : (((List.range (plN kd)).map fun i => cyP (f : Int) (m : Int) (r : Int) (q : Int) (i + 1)).drop 1).sum = cyP (f : Int) (m : Int) (r : Int) (q : Int) 2 + cyP (f : Int) (m : Int) (r : Int) (q : Int) 3 + cyP (f : Int) (m : Int) (r : Int) (q : Int) 4 + cyP (f : Int) (m : Int) (r : Int) (q : Int) 5 := by
    unfold plN
    split
    · have c6 := cy 5
      rw [z (m + f) (by omega), z f (by omega), z m (by omega)] at c6
      show cyP (f : Int) (m : Int) (r : Int) (q : Int) 2 + (cyP (f : Int) (m : Int) (r : Int) (q : Int) 3 + (cyP (f : Int) (m : Int) (r : Int) (q : Int) 4 + (cyP (f : Int) (m : Int) (r : Int) (q : Int) 5 + (cyP (f : Int) (m : Int) (r : Int) (q : Int) 6 + 0)))) = _
      rw [show cyP (f : Int) (m : Int) (r : Int) (q : Int) 6 = 0 from c6.trans (by omega)]
      omega
    · show cyP (f : Int) (m : Int) (r : Int) (q : Int) 2 + (cyP (f : Int) (m : Int) (r : Int) (q : Int) 3 + (cyP (f : Int) (m : Int) (r : Int) (q : Int) 4 + (cyP (f : Int) (m : Int) (r : Int) (q : Int) 5 + 0))) = _
      omega
  rw [tail, show (1 : Nat) = 0 + 1 from rfl, cy 0, cy 1, cy 2, cy 3, cy 4, gq_dn, gq_dn, gq_dn, gq_dn]
  have d0 : ∀ n, dnN n r q 0 = n / r := fun _ => rfl
  rw [d0, d0, d0, Nat.zero_add, Nat.zero_div]
  have g0 : dnN 0 r q 1 + dnN 0 r q 2 + dnN 0 r q 3 + dnN 0 r q 4 = 0 := by
    have a0 : dnN 0 r q 0 = 0 := Nat.zero_div r
    have st : ∀ i, dnN 0 r q i = 0 → dnN 0 r q (i + 1) = 0 := fun i h => by show dnN 0 r q i / q = 0; rw [h, Nat.zero_div]
    have a1 := st 0 a0
    have a2 := st 1 a1
    have a3 := st 2 a2
    have a4 := st 3 a3
    rw [a1, a2, a3, a4]
  rw [show (q : Int).toNat = q from rfl, g0]
  generalize vp q (luc (rowP gr q) (rowQ gr q) r).toNat = e
  push_cast
  rw [Int.mul_sub, Int.mul_sub]
  omega
end Mine
end
section
open PySem PySem.W PyProof.Rows PySem.Calls
set_option Elab.async false
set_option compiler.extract_closed false
namespace Mine
set_option maxRecDepth 100000
set_option maxHeartbeats 40000000
namespace HL
theorem k_eval_ListComp {P : Prop} (h : Halt P) : P := h
theorem k_exec_While_Compare_cons_nil {P : Prop} (h : Halt P) : P := h
theorem k_call_type_zip {P : Prop} (h : Halt P) : P := h
theorem k_exec_For_Name_Call_cons_nil {P : Prop} (h : Halt P) : P := h
theorem k_exec_Assign_cons_ListComp {P : Prop} (h : Halt P) : P := h
theorem k_CompEnd {P : Prop} (h : Halt P) : P := h
theorem k_CompSrc {P : Prop} (h : Halt P) : P := h
theorem k_subscriptTail_Name_BinOp_ref_int {P : Prop} (h : Halt P) : P := h
theorem k_subscriptTail_List {P : Prop} (h : Halt P) : P := h
section
variable {M : Model} {A : Around} {E : Value → Shared → Prop} {s : Shared} {Q : Value → Shared → Prop} {x y z : Expr} {p : Pos} {a b : Addr} {k : Nat}
theorem k_subscriptTail {i : Int} {u : Tok} (h : Halt (wpAny M A (subscriptTail x (.Constant (.int 0) k p) (.ref a) (.int i u)) Q E s)) : wpAny M A (subscriptTail x (.Constant (.int 0) k p) (.ref a) (.int i u)) Q E s := h
theorem k_subscriptTail_Name_Slice_ref_ref (h : Halt (wpAny M A (subscriptTail x (.Slice (some y) (some z) none p) (.ref a) (.ref b)) Q E s)) : wpAny M A (subscriptTail x (.Slice (some y) (some z) none p) (.ref a) (.ref b)) Q E s := h
theorem h73 {ps : List Value} {kw : List (Str × Value)} (h : Halt (wpAny M A (call (.ref 73) ps kw) Q E s)) : wpAny M A (call (.ref 73) ps kw) Q E s := h
variable {env : Env} {g ge wd} {X : Nat} {o}
theorem const5 (h : ∀ t : Tok, ∀ tk : Nat, Q (.int 5 t) (Shared.mk g ge wd tk o)) : wpAny M A (eval (.Constant (.int 5) k p) env) Q E (Shared.mk g ge wd X o) := const_gen h
theorem const9 (h : ∀ t : Tok, ∀ tk : Nat, Q (.int 9 t) (Shared.mk g ge wd tk o)) : wpAny M A (eval (.Constant (.int 9) k p) env) Q E (Shared.mk g ge wd X o) := const_gen h
theorem const127 (h : ∀ t : Tok, ∀ tk : Nat, Q (.int 127 t) (Shared.mk g ge wd tk o)) : wpAny M A (eval (.Constant (.int 127) k p) env) Q E (Shared.mk g ge wd X o) := const_gen h
end
end HL
open HL
local macro_rules | `(tactic| walk_at "eval Constant int") => `(tactic| ((with_reducible first | apply const5 | apply const9 | apply const127); intro t' tk'; try dsimp only))
local macro_rules | `(tactic| walk_at "call ref") => `(tactic| ((fail_if_success (with_reducible apply h73)); apply Halt.mk'))
local macro_rules | `(tactic| walk_at "call builtin:sum") => `(tactic| (k_dflt (refine' sum_pickD (by rfl) (by k_asm) (by k_asm) (by assumption) ?_); intro k' h' tk' t' F' N'; (try dsimp only at F'); (try dsimp only at N'); (try dsimp only)))
local macro_rules | `(tactic| walk_at "subscriptTail Name Name ref int") => `(tactic| (k_dflt (refine' itemI (by k_asm) (by k_mem) (by assumption) (by omega) (by rw [lucs_len]; omega) (by exact lucs_get _ _ (by omega)) ?_); intro tk'))
local macro_rules | `(tactic| walk_at "eval IfExp") => `(tactic| (k_dflt (refine' ifexp_K (by refine isTrue_plain ?_; refine' nameX_L (by k_asm) rfl ?_; refine truthy_int ?_; exact ⟨rfl, rfl⟩) ?_); intro t' tk'))
local macro_rules | `(tactic| walk_at "call builtin:len") => `(tactic| (k_dflt (refine' lenI (by k_asm) (by k_mem) (by assumption) (by omega) ?_)))
local macro_rules | `(tactic| walk_at "call builtin:dict.get") => `(tactic| (k_dflt (refine' get_exact (by k_asm) (by k_asm) ?_); intro t'))
local macro_rules | `(tactic| walk_at "call builtin:list.append") => `(tactic| (k_dflt (refine' append_list (by k_asm) (by k_asm) (by k_upd) (by rw [PySem.sizeLine_eq]; omega) ?_); kl_rest))
local macro_rules | `(tactic| walk_at "execs cons") => `(tactic| ((fail_if_success k_made); (with_reducible refine execs_gen ?_); intro tk'; (try dsimp only)))
local macro_rules | `(tactic| k_in) => `(tactic| exact Frag.In.keeps (by with_reducible assumption) (Fr.keep (by with_reducible assumption)))
local macro_rules | `(tactic| k_all) => `(tactic| with_reducible assumption)
local macro_rules | `(tactic| k_mem) => `(tactic| ((fail_if_success (with_reducible refine List.Mem.tail _ ?_)); (show _ ∈ (_ : List (Addr × Obj))); with_reducible assumption))
local macro_rules | `(tactic| k_ne) => `(tactic| (refine neN ?_; (try dsimp only); first | with_reducible assumption | exact Ne.symm (by with_reducible assumption) | omega))
theorem law_walk : Walk := (by
  unfold Walk
  dsimp only [lit]
  k_fill
  intro w s₀ s₁ mg mb G Y fa o pm cd doc dV kV ho hd hcd hD hmg hg args vals as hpre hlay hrd hwl hlo
  have KX := km_in_of Y
  km_tabs Y
  have X := (Ground.X G).1
  have V := (Ground.X G).2
  refine Ground.open G ?_
  intro T B D TE TW
  try (refine guard_noD D (by decide +kernel) ?_; clear D)
  km_lay T hmg ho hd cd
  clear hmg
  wrow_args hpre hlay hrd hwl hlo
  all_goals (
    first | refine callC_kw (enter_call ?_) | refine enter_call ?_
    w_top on)
  refine my_post (d := ofPy (.bool true)) hT9 (fun _ => rfl) (fun h => ?_) ?_ ?_
  · first | exact .bool true | exact ReadsW.plain (.bool true) | exact ReadsW.of_plain (.bool true)
  · with_unfolding_all rfl
  w_call any ho hd hcd hD T F
  clear hd
  kn_ghosts F T
  k_drop
  rename Fr _ _ _ _ => F1
  rename_i h1 tk1 o3 o2 o1 c3 c2 c1 X0 X' T' K' N1 l0
  clear X0
  replace c1 : o1.data = .cell none := c1
  replace c2 : o2.data = .cell none := c2
  replace c3 : o3.data = .cell none := c3
  have F2 := Fr.lw F1 (v := { script := some (.ref _) }) (lw_ext ⟨rfl, rfl, rfl, rfl, rfl, rfl, rfl, rfl, rfl, rfl, rfl, rfl, rfl, rfl, rfl, rfl, rfl, rfl, rfl, rfl, rfl, rfl⟩ (by
    intro y h1 h2 h3 h4 h5 h6 h7 h8 h9 h10 h11 h12 h13 h14 h15 h16 h17 h18 h19 h20 h21 h22
    exact (congrFun (bindL_one _ (Str.ofString "script") _ rfl) y).trans (if_neg h1)))
  clear F1
  refine wpAny_noRaise ?_
  k_steps
  unfold Halt

  rename Fr _ _ _ _ => F3
  rename News _ _ _ _ => N3
  w_top off
  rename @Eq Data _ (Data.cell (some _)) => d0
  obtain ⟨tp, d1⟩ := gen_cell d0
  clear d0
  obtain ⟨t1, t2, t3, t4, t5, F4⟩ := gen1 F3 (lw_ext ⟨rfl, rfl, rfl, rfl, rfl, rfl, rfl, rfl, rfl, rfl, rfl, rfl, rfl, rfl, rfl, rfl, rfl, rfl, rfl, rfl, rfl, rfl⟩ (by
    intro y h1 h2 h3 h4 h5 h6 h7 h8 h9 h10 h11 h12 h13 h14 h15 h16 h17 h18 h19 h20 h21 h22
    (repeat (first | exact lw_none _ h1 h2 h3 h4 h5 h6 h7 h8 h9 h10 h11 h12 h13 h14 h15 h16 h17 h18 h19 h20 h21 h22 | refine (if_neg (by assumption)).trans ?_))))
  have N4 := sub_news N3 (fun q hq => List.mem_cons_of_mem _ hq)
  clear F3 N3
  refine' call_row rfl ?qB F4 ?qX N4 ?qT rfl rfl ?q1 ?q2 ?q3 ?q4 ?q5 ?q6 ?_
  case qB => assumption
  case qX => assumption
  case qT => assumption
  case q1 => decide
  case q2 => decide
  case q3 => exact prime_lo _
  case q4 => exact prime_hi _
  case q5 => exact many_lo _
  case q6 => exact many_hi _
  clear F4 N4
  intro D1 vr cr h7 tk7 F4 N4 l4 hr
  k_steps
  unfold Halt
  rename Fr _ _ _ _ => F5; rename News _ _ _ _ => N5
  w_top off
  obtain ⟨gr, oth, lk, pr, few, more, gv, t2, t3, t4, t5, t7, tp, hpr, hfew, hmore, F6, d2, hr2⟩ := gen2 F5 (lw_ext ⟨rfl, rfl, rfl, rfl, rfl, rfl, rfl, rfl, rfl, rfl, rfl, rfl, rfl, rfl, rfl, rfl, rfl, rfl, rfl, rfl, rfl, rfl⟩ (by
    intro y h1 h2 h3 h4 h5 h6 h7 h8 h9 h10 h11 h12 h13 h14 h15 h16 h17 h18 h19 h20 h21 h22
    (repeat (first | exact lw_none _ h1 h2 h3 h4 h5 h6 h7 h8 h9 h10 h11 h12 h13 h14 h15 h16 h17 h18 h19 h20 h21 h22 | refine (if_neg (by assumption)).trans ?_)))) d1 hr
  clear F5 d1 hr
  obtain ⟨R, hR2, hR8, hR0, hRn⟩ := rank_ex gr pr hpr
  refine while_m (RkI _ _ s₁ _ (rowP gr pr) (rowQ gr pr) pr R fun r t => (lw2 _ gv oth t2 lk t3 few t4 more t5 D1 r t).m) (R - 1) ⟨1, _, _, t7, rfl, by omega, by omega, F6, N5⟩ ?_
  clear F6 N5
  rintro k _ ⟨r, h8, tk8, t8, rfl, hkr, hr1, F6, N6⟩
  dsimp only at F6
  k_steps
  · rename Int.fmod _ _ ≠ _ => hne
    rename Fr _ _ _ _ => F7; rename News _ _ _ _ => N7
    have hlt : r < R := by
      rcases Nat.lt_or_ge r R with h | h
      · exact h
      · obtain rfl : r = R := by omega
        exact absurd hR0 hne
    exact ⟨k - 1, by omega, r + 1, _, _, _, rfl, by omega, by omega, Fr.lw F7 (lw_ext ⟨rfl, rfl, rfl, rfl, rfl, rfl, rfl, rfl, rfl, rfl, rfl, rfl, rfl, rfl, rfl, rfl, rfl, rfl, rfl, rfl, rfl, rfl⟩ (by
    intro y h1 h2 h3 h4 h5 h6 h7 h8 h9 h10 h11 h12 h13 h14 h15 h16 h17 h18 h19 h20 h21 h22
    (repeat (first | exact lw_none _ h1 h2 h3 h4 h5 h6 h7 h8 h9 h10 h11 h12 h13 h14 h15 h16 h17 h18 h19 h20 h21 h22 | refine (if_neg (by assumption)).trans ?_)))), N7⟩
  rename Int.fmod _ _ = _ => heq
  obtain rfl : r = R := by
    rcases Nat.lt_or_ge r R with h | h
    · exact absurd heq (hRn r hr1 h)
    · omega
  clear heq
  rename Fr _ _ _ _ => F7; rename News _ _ _ _ => N7
  unfold Halt
  w_top off
  refine' call_names rfl ?qB F7 ?qX N7 ?qT rfl rfl ?q1 ?q2 ?_
  case qB => assumption
  case qX => assumption
  case qT => assumption
  case q1 => decide
  case q2 => decide
  clear F7 N7
  intro DN vn hN tkN FN NN lN hn
  k_steps
  unfold Halt
  rename Fr _ _ _ _ => F8; rename News _ _ _ _ => N8
  refine sub3 N8 (by k_mem) ?_
  intro x hx
  rename @Eq Data _ (Data.cell (some (Value.int (7 + _) _))) => d3
  have F8b := Fr.lw F8 (v := lw3 (lw2 _ gv oth t2 lk t3 few t4 more t5 D1 r t8) DN _ (Int.fmod (Int.fdiv oth 3600) 3) _) (lw_ext ⟨rfl, rfl, rfl, rfl, rfl, rfl, rfl, rfl, rfl, rfl, rfl, rfl, rfl, rfl, rfl, rfl, rfl, rfl, rfl, rfl, rfl, rfl⟩ (by
    intro y h1 h2 h3 h4 h5 h6 h7 h8 h9 h10 h11 h12 h13 h14 h15 h16 h17 h18 h19 h20 h21 h22
    (repeat (first | exact lw_none _ h1 h2 h3 h4 h5 h6 h7 h8 h9 h10 h11 h12 h13 h14 h15 h16 h17 h18 h19 h20 h21 h22 | refine (if_neg (by assumption)).trans ?_))))
  obtain ⟨kd, no, rv, sv, t9, tno, hkd, hno, hrv, hsv, lx, d4, F9, N9⟩ := gen4 (oth := Int.fdiv oth 3600) (lk := lk) (rk := (r : Int)) (pr := pr) (v := lw2 _ gv oth t2 lk t3 few t4 more t5 D1 r t8) F8b rfl d3 N8 hx (by omega)
  clear F8 F8b N8 hx d3
  k_steps
  unfold Halt
  rename Fr _ _ _ _ => F10; rename News _ _ _ _ => N10
  w_top off
  obtain ⟨hp1, hp2, hp3, hp4, hp5⟩ := prF hpr
  obtain ⟨u1, u2, u3, u4, u5, u6, rfl⟩ := ints6 hsv
  clear hsv
  refine' zip_assign (h₀ := ghostOf s₁.heap [(86, 82)]) (L := s₁.heap.objs.size) rfl ?za ?zf rfl ?zg ?zc ?zd rfl ?ze rfl ?z1 rfl ?z2 ?_
  case za => rfl
  case zf => rfl
  case zg => rfl
  case zc => rfl
  case zd => decide
  case ze => decide
  case z1 => decide
  case z2 => decide
  k_steps
  unfold Halt
  k_dflt (refine' call_figures rfl ?qB ?qF ?qX ?qN ?qT rfl rfl ?q1 ?q2 ?q3 ?q4 ?q5 ?q6 ?_; (case qB => assumption); (case qF => assumption); (case qX => assumption); (case qN => assumption); (case qT => assumption); (case q1 => decide); (case q2 => decide); (case q3 => exact ints5 _ _ _ _ _ _ _); (case q4 => (refine pos5 ?_ ?_ <;> omega)); (case q5 => exact Nat.le_of_ble_eq_true rfl); (case q6 => exact neA (by omega)))
  intro _ _ _ _ _ _ _ _ _
  try dsimp only
  k_steps
  unfold Halt
  k_dflt (refine' call_figures rfl ?qB ?qF ?qX ?qN ?qT rfl rfl ?q1 ?q2 ?q3 ?q4 ?q5 ?q6 ?_; (case qB => assumption); (case qF => assumption); (case qX => assumption); (case qN => assumption); (case qT => assumption); (case q1 => decide); (case q2 => decide); (case q3 => exact ints5 _ _ _ _ _ _ _); (case q4 => (refine pos5 ?_ ?_ <;> omega)); (case q5 => exact Nat.le_of_ble_eq_true rfl); (case q6 => exact neA (by omega)))
  intro _ _ _ _ _ _ _ _ _
  try dsimp only
  k_steps
  unfold Halt
  rename Fr _ _ _ _ => F12; rename News _ _ _ _ => N12
  rename IntsAre _ _ => hi2
  rename IntsAre _ (figsZ few _) => hi1
  refine wpAny_mono (zip_src F12 N12 (by k_mem) (by k_mem) hi1 hi2) (fun xv s' hz => ?_) (fun _ _ e => e)
  obtain ⟨⟨h9, rfl⟩, hz⟩ := hz
  have hfl : ∀ n, (figsZ n [(r : Int), pr, pr, pr, pr]).length = 5 := fun n => by rw [figsZ_len]; rfl
  have p8 := pos8 (rk := (r : Int)) (pr := pr) (by omega) (by omega)
  refine ⟨_, _, _, _, hz, by rw [hfl, hfl], by rw [hfl]; omega, fun DW vw cw h10 tk10 F13 N13 l13 hw => ?_⟩
  clear hz
  dsimp only
  k_lt l13
  clear F12 N12 hi1 hi2
  have hw8 := inter_pos (figs_pos _ few p8) (figs_pos _ more p8)
  have hwl : (inter (figsZ few [(r : Int), pr, pr, pr, pr]) (figsZ more [(r : Int), pr, pr, pr, pr])).length = 10 := by rw [inter_len _ _ (by rw [hfl, hfl]), hfl]
  generalize hWR : inter (figsZ few [(r : Int), pr, pr, pr, pr]) (figsZ more [(r : Int), pr, pr, pr, pr]) = WR at hw hw8 hwl
  k_steps
  unfold Halt
  refine' call_text rfl ?yB F13 ?yX N13 ?yT rfl rfl ?y1 ?y2 ?y3 ?y4 hw hn hw8 ?y5 hno ?_
  case yB => assumption
  case yX => assumption
  case yT => assumption
  case y1 => decide
  case y2 => decide
  case y3 => k_mem
  case y4 => k_mem
  case y5 => rw [hwl]; omega
  intro xt tt h11 tk11 F14 N14 hxt
  clear F13 N13
  have hrd := text_rd (look := lk) hno hw8
  rw [← hxt, hwl] at hrd
  clear hxt
  obtain ⟨hrd, hxl⟩ := hrd
  k_steps
  unfold Halt
  rename Fr _ _ _ _ => F14; rename News _ _ _ _ => N14
  w_top off
  refine' call_lexer (a0 := DW) (news := [(x, _), (_, listOf #[Value.int (r : Int) u1, Value.int pr u2, Value.int pr u3, Value.int pr u4, Value.int pr u5, Value.int pr u6] 0), (DN, _), (D1, _), (s₁.heap.objs.size + 1 + 1 + 1, _), (s₁.heap.objs.size + 1 + 1, _), (s₁.heap.objs.size + 1, _)]) rfl ?yB F14 ?yX (sub_news N14 ?yS) ?yT codeHd rfl rfl ?y1 ?y2 ?y3 ?y4 ?y5 ?_
  case yB => assumption
  case yX => assumption
  case yT => assumption
  case y1 => decide
  case y2 => decide
  case yS => (repeat (first | exact List.forall_mem_nil _ | (refine List.forall_mem_cons.mpr ⟨?km, ?_⟩; (case km => k_mem))))
  case y3 => omega
  case y4 =>
    have e0 : @LT.lt Nat _ 82 (s₁.heap.objs.size + 1) := Nat.lt_succ_of_lt l0
    have e1 : @LT.lt Nat _ 82 (s₁.heap.objs.size + 1 + 1) := Nat.lt_succ_of_lt e0
    have e2 : @LT.lt Nat _ 82 (s₁.heap.objs.size + 1 + 1 + 1) := Nat.lt_succ_of_lt e1
    have e3 := Nat.lt_trans e2 l4
    have e4 := Nat.lt_trans e3 lN
    refine List.forall_mem_cons.mpr ⟨neA (by dsimp only; omega), ?_⟩
    refine List.forall_mem_cons.mpr ⟨neA (by dsimp only; omega), ?_⟩
    exact List.forall_mem_cons.mpr ⟨Nat.ne_of_gt e4, List.forall_mem_cons.mpr ⟨Nat.ne_of_gt e3, List.forall_mem_cons.mpr ⟨Nat.ne_of_gt e2, List.forall_mem_cons.mpr ⟨Nat.ne_of_gt e1, List.forall_mem_cons.mpr ⟨Nat.ne_of_gt e0, List.forall_mem_nil _⟩⟩⟩⟩⟩
  case y5 =>
    rw [Array.length_toList] at hxl
    show xt.cps.size ≤ _
    rw [sizeLine_eq]; omega
  clear N14 F14
  intro c tc1 vc nc h12 tk12 ok F15 N15 lc lco hsc hcq
  simp only [Lx.led, List.cons_append, List.nil_append] at N15
  have hoc := ok.hord
  k_steps
  unfold Halt
  rename Fr _ _ _ _ => F16; rename News _ _ _ _ => N16
  refine' call_lexer2 (a0 := c.PB) rfl ?yB F16 ?yX N16 ?m1 ?m2 ?m3 ?yT codeHd rfl rfl ?y1 ?y2 ?y3 ?y4 ok.hco (hcq ▸ ok.hcq) ?y5 ?_
  case yB => assumption
  case yX => assumption
  case yT => assumption
  case m1 => k_mem
  case m2 => k_mem
  case m3 => k_mem
  case y1 => decide
  case y2 => decide
  case y3 => omega
  case y4 => omega
  case y5 => exact Nat.zero_le _
  clear F16
  intro k tk1 vk nk h13 tk13 ok2 hkco F16 N17 hled lk2 hsk
  have hco2 : k.co = c.co := by
    have e1 := hled _ (.head _)
    have e2 := (N17 (c.CO, c.co) (List.mem_append_right _ (by k_mem))).1
    dsimp only at e1
    rw [hkco, e2] at e1
    exact (Option.some.inj e1).symm
  clear hled N16
  simp only [List.cons_append, List.nil_append] at N17
  have hok := ok2.hord
  rw [hkco] at hok
  refine' storeX_C ?vF ?vN ?vc ?vU ?vd ?_ ?va ?vb
  case va => rfl
  case vb => rfl
  case vF => k_asm
  case vN => k_asm
  case vc => rfl
  case vU => k_updF
  case vd => k_asm
  intro h14 ok3 F17 N18 d5
  try dsimp only at N18
  clear F16 N17
  k_steps
  unfold Halt
  rename Fr _ _ _ _ => F18; rename News _ _ _ _ => N19
  w_top off
  rename_i z1 z2 z3 z4 z5 z6 z7 z8 sc0 z10 z11 z12 z13 z14 z15 z16 z17 z18 z19 z20 z21 z22 z23 z24 z25 z26 z27 z28 z29 z30 z31 z32 z33 z34 z35 z36 z37 z38 z39 z40 z41 z42 z43 oPr z45 z46 z47 z48 z49 z50 z51 z52 z53 z54 z55 z56 z57 z58 z59 z60 z61 z62 z63 z64 z65 z66 z67 z68 z69 oNo z71 z72 z73 z74 z75 z76 z77 z78 z79 z80 z81 z82 z83 z84 z85 z86 z87 z88 dS z90 z91 z92 z93 z94 z95 z96 z97 z98 z99 z100 z101 z102 z103 z104 z105 z106 z107 z108 z109 z110 z111 z112 z113 z114 z115 z116 z117 z118 z119 z120 z121 z122 z123 tpl z125 z126 z127 z128 z129 z130 z131 z132 z133 z134 z135 z136 z137 z138 z139 z140 z141 z142 z143 z144 z145 z146 z147 z148 z149 z150 z151 z152 z153 z154 z155 lC z157 z158 z159 z160 hLast z162
  clear z48 z74 z77 z82 z84 z85 z86 z87 z88 z100 z105 z110 z115 z118 z121 z132 z138 z143 z149
  have F19 := Fr.lw F18 (v := lw5 (lw3 (lw2 (.ref sc0) gv oth t2 lk t3 few t4 more t5 D1 r t8) DN dS kd t9) x (if kd = 0 then 6 else 5) tpl DW xt tt c.X lC 0 _ none none) (lw_ext ⟨rfl, rfl, rfl, rfl, rfl, rfl, rfl, rfl, rfl, rfl, rfl, rfl, rfl, rfl, rfl, rfl, rfl, rfl, rfl, rfl, rfl, rfl⟩ (by
    intro y h1 h2 h3 h4 h5 h6 h7 h8 h9 h10 h11 h12 h13 h14 h15 h16 h17 h18 h19 h20 h21 h22
    (repeat (first | exact lw_none _ h1 h2 h3 h4 h5 h6 h7 h8 h9 h10 h11 h12 h13 h14 h15 h16 h17 h18 h19 h20 h21 h22 | refine (if_neg (by assumption)).trans ?_))))
  clear F18
  rename News _ _ _ _ => N20
  have off := fix_off (o0 := k.dx w.params tk1 1) (o1 := listOf vk.toArray nk) (o2 := instObj 59 k.DX) (o3 := instObj 59 k.DS) (o4 := strDict w.params k.j1 k.j2 k.j3 k.j4 k.j5 k.u1 k.u3 k.PB1 k.LAM) (o5 := lamObj k.q k.CELL k.CO k.pm k.ct) (o6 := k.cellO)
    (o7 := listOf #[] 0) (o8 := instObj 59 c.DX) (o9 := instObj 59 c.DS) (o10 := strDict w.params c.j1 c.j2 c.j3 c.j4 c.j5 c.u1 c.u3 c.PB1 c.LAM) (o11 := lamObj c.q c.CELL c.CO c.pm c.ct) (o12 := c.cellO) (o13 := c.co) (o14 := tab82 c.CO)
    (o15 := listOf rv.toArray 0) (o16 := listOf #[Value.int (r : Int) u1, Value.int pr u2, Value.int pr u3, Value.int pr u4, Value.int pr u5, Value.int pr u6] 0) (o17 := listOf vn.toArray 0) (o18 := listOf vr.toArray cr) (o19 := ok3) (o20 := oNo) (o21 := oPr) ok2 ok lk2 (Nat.lt_trans l13.2.2.1 lc) (Nat.lt_trans l13.2.2.2.1 lc) (Nat.lt_trans l13.2.2.2.2.1 lc) (Nat.lt_trans l13.2.2.2.2.2.1 lc) (Nat.lt_trans l13.2.2.2.2.2.2.1 lc) (Nat.lt_trans l13.2.2.2.2.2.2.2.2.2 lc)
  obtain ⟨P, hPc, hPt, hPk2, hPi, N21, pm2, pm3, pm4, pm5, pm6, pm7, pm8, pm9, pm10, pm11, pm12, pm13, pm14, pm15, pm16, pm17, pm18, pm19, pm20, pm21⟩ : ∃ P : List (Addr × Obj), (∀ q ∈ (k.DX, k.dx w.params tk1 1) :: (k.SG, listOf vk.toArray nk) :: P, q.1 ≠ c.DX ∧ q.1 ≠ c.SG) ∧ (∀ q ∈ (k.DX, k.dx w.params tk1 1) :: (k.SG, listOf vk.toArray nk) :: P, q.1 < k.PB) ∧ (∀ q ∈ P, q.1 ≠ k.DX ∧ q.1 ≠ k.SG) ∧ (∀ q ∈ (k.DX, k.dx w.params tk1 1) :: (k.SG, listOf vk.toArray nk) :: P, ¬ IsIt q.2) ∧
      News (ghostOf s₁.heap [(86, 82)]) s₁.heap.objs.size hLast ((lC, listOf #[] 0) :: (k.PB, listOf #[] 0) :: (c.DX, c.dx w.params tc1 1) :: (c.SG, listOf vc.toArray nc) :: (k.DX, k.dx w.params tk1 1) :: (k.SG, listOf vk.toArray nk) :: P) ∧ (k.X, instObj 59 k.DX) ∈ P ∧ (k.ST, instObj 59 k.DS) ∈ P ∧ (k.DS, strDict w.params k.j1 k.j2 k.j3 k.j4 k.j5 k.u1 k.u3 k.PB1 k.LAM) ∈ P ∧ (k.LAM, lamObj k.q k.CELL k.CO k.pm k.ct) ∈ P ∧ (k.CELL, k.cellO) ∈ P ∧ (c.PB, listOf #[] 0) ∈ P ∧ (c.X, instObj 59 c.DX) ∈ P ∧ (c.ST, instObj 59 c.DS) ∈ P ∧ (c.DS, strDict w.params c.j1 c.j2 c.j3 c.j4 c.j5 c.u1 c.u3 c.PB1 c.LAM) ∈ P ∧ (c.LAM, lamObj c.q c.CELL c.CO c.pm c.ct) ∈ P ∧ (c.CELL, c.cellO) ∈ P ∧ (c.CO, c.co) ∈ P ∧ (82, tab82 c.CO) ∈ P ∧ (x, listOf rv.toArray 0) ∈ P ∧ (dS, listOf #[Value.int (r : Int) u1, Value.int pr u2, Value.int pr u3, Value.int pr u4, Value.int pr u5, Value.int pr u6] 0) ∈ P ∧ (DN, listOf vn.toArray 0) ∈ P ∧ (D1, listOf vr.toArray cr) ∈ P ∧ (s₁.heap.objs.size + 1 + 1 + 1, ok3) ∈ P ∧ (s₁.heap.objs.size + 1 + 1, oNo) ∈ P ∧ (s₁.heap.objs.size + 1, oPr) ∈ P := by
    refine ⟨_, off.1, off.2.1, off.2.2, fix_it ok2 ok d5 d4 d2, sub_news N20 ?_, ?_, ?_, ?_, ?_, ?_, ?_, ?_, ?_, ?_, ?_, ?_, ?_, ?_, ?_, ?_, ?_, ?_, ?_, ?_, ?_⟩
    · ((repeat (first | exact List.forall_mem_nil _ | (refine List.forall_mem_cons.mpr ⟨?km, ?_⟩; (case km => k_mem)))); (all_goals (intro q' hq'; repeat (first | exact hq' | refine List.Mem.tail _ ?_))))
    all_goals k_mem
  clear off
  have hPg : ∀ q ∈ (k.DX, k.dx w.params tk1 1) :: (k.SG, listOf vk.toArray nk) :: P, q.1 < hLast.objs.size := fun q hq => Heap.lt_size (N21 q (.tail _ (.tail _ (.tail _ (.tail _ hq))))).1
  have hg1 : k.PB < hLast.objs.size := Heap.lt_size (N21 _ (.tail _ (.head _))).1
  have hg2 : c.DX < hLast.objs.size := Heap.lt_size (N21 _ (.tail _ (.tail _ (.head _)))).1
  have hg3 : c.SG < hLast.objs.size := Heap.lt_size (N21 _ (.tail _ (.tail _ (.tail _ (.head _))))).1
  clear N20
  have hPk : ∀ q ∈ (k.DX, k.dx w.params tk1 1) :: (k.SG, listOf vk.toArray nk) :: P, q.1 ≠ k.PB := fun q hq => Nat.ne_of_lt (hPt q hq)
  have hPl : ∀ q ∈ (k.DX, k.dx w.params tk1 1) :: (k.SG, listOf vk.toArray nk) :: P, q.1 ≠ lC := fun q hq => Nat.ne_of_lt (Nat.lt_trans (hPt q hq) z158.1)
  have f1 : @LT.lt Nat _ c.SG c.DX := Nat.lt_trans hoc.2.1 (Nat.lt_trans hoc.2.2.1 (Nat.lt_trans hoc.2.2.2.1 hoc.2.2.2.2.2.1))
  have f2 : @LT.lt Nat _ c.DX k.SG := Nat.lt_trans hoc.2.2.2.2.2.2.1 (Nat.lt_trans hoc.2.2.2.2.2.2.2 (Nat.lt_trans lk2 hok.1))
  have f3 : @LT.lt Nat _ k.SG k.DX := Nat.lt_trans hok.2.1 (Nat.lt_trans hok.2.2.1 (Nat.lt_trans hok.2.2.2.1 hok.2.2.2.2.2.1))
  have f4 : @LT.lt Nat _ k.DX k.PB := hPt _ (.head _)
  have f5 : @LT.lt Nat _ k.PB lC := z158.1
  have f87 : ∀ _ : Nat, k.DX < k.X ∧ k.X < k.PB := fun _ => ⟨hok.2.2.2.2.2.2.1, hPt _ (.tail _ (.tail _ pm2))⟩
  have g02 : @LT.lt Nat _ c.SG k.SG := Nat.lt_trans f1 f2
  have g13 : @LT.lt Nat _ c.DX k.DX := Nat.lt_trans f2 f3
  have g24 : @LT.lt Nat _ k.SG k.PB := Nat.lt_trans f3 f4
  have g35 : @LT.lt Nat _ k.DX lC := Nat.lt_trans f4 f5
  have g03 : @LT.lt Nat _ c.SG k.DX := Nat.lt_trans g02 f3
  have g14 : @LT.lt Nat _ c.DX k.PB := Nat.lt_trans g13 f4
  have g25 : @LT.lt Nat _ k.SG lC := Nat.lt_trans g24 f5
  have g04 : @LT.lt Nat _ c.SG k.PB := Nat.lt_trans g03 f4
  have g15 : @LT.lt Nat _ c.DX lC := Nat.lt_trans g14 f5
  have g05 : @LT.lt Nat _ c.SG lC := Nat.lt_trans g04 f5
  have n01 : @Ne Nat c.SG c.DX := Nat.ne_of_lt f1
  have n02 : @Ne Nat c.SG k.SG := Nat.ne_of_lt g02
  have n03 : @Ne Nat c.SG k.DX := Nat.ne_of_lt g03
  have n04 : @Ne Nat c.SG k.PB := Nat.ne_of_lt g04
  have n05 : @Ne Nat c.SG lC := Nat.ne_of_lt g05
  have n12 : @Ne Nat c.DX k.SG := Nat.ne_of_lt f2
  have n13 : @Ne Nat c.DX k.DX := Nat.ne_of_lt g13
  have n14 : @Ne Nat c.DX k.PB := Nat.ne_of_lt g14
  have n15 : @Ne Nat c.DX lC := Nat.ne_of_lt g15
  have n23 : @Ne Nat k.SG k.DX := Nat.ne_of_lt f3
  have n24 : @Ne Nat k.SG k.PB := Nat.ne_of_lt g24
  have n25 : @Ne Nat k.SG lC := Nat.ne_of_lt g25
  have n34 : @Ne Nat k.DX k.PB := Nat.ne_of_lt f4
  have n35 : @Ne Nat k.DX lC := Nat.ne_of_lt g35
  have n45 : @Ne Nat k.PB lC := Nat.ne_of_lt f5
  have f6 : @LT.lt Nat _ 82 c.SG := Nat.lt_trans l13.2.2.2.2.2.2.2.2.2 (Nat.lt_trans lc hoc.1)
  clear hPt z91 l13 z158 lc lco hoc hok lk2 l4 lN lx f1 f2 f3 f4 f5 g02 g03 g04 g05 g13 g14 g15 g24 g25 g35
  refine wpAny_mono (Q := LoopD (ghostOf s₁.heap [(86, 82)]) s₁.heap.objs.size s₁ (fun cy ct sv tv => (lw5 (lw3 (lw2 (.ref sc0) gv oth t2 lk t3 few t4 more t5 D1 r t8) DN dS kd t9) x (if kd = 0 then 6 else 5) tpl DW xt tt c.X lC cy ct sv tv).m)
    ((k.DX, k.dx w.params tk1 1) :: (k.SG, listOf vk.toArray nk) :: P)
    w.params no few more r pr kd (bumps xt.cps.toList 1) c lC k.PB) ?first ?second (fun _ _ e => e)
  case second =>
    intro f s2 hd
    clear N21 hPi hPg hg1 hg2 hg3
    obtain ⟨h20, tk20, gens20, rfl, rfl, hM, hbare⟩ := hd
    w_top off
    obtain ⟨cvs, kvs, svs, cn, kn, sn, cs, t1', ln, ct, sv, tv, F, N, hcv, hkv, hsv, hrd', hcl, hbm, hcy⟩ := hM
    clear F19
    have hpl6 : plN kd ≤ 6 ∧ 5 ≤ plN kd := by unfold plN; split <;> omega
    have hcvl : cvs.length = plN kd := by rw [hcv.length, List.length_map, List.length_range]
    have hkvl : kvs.length = plN kd := by rw [hkv.length, List.length_map, List.length_range]
    have N' := sub_news (l' := (k.PB, listOf kvs.toArray kn) :: (lC, listOf cvs.toArray cn) :: (c.DX, c.dx w.params t1' ln) :: (c.SG, listOf svs.toArray sn) :: (k.DX, k.dx w.params tk1 1) :: (k.SG, listOf vk.toArray nk) :: P) N (by ((repeat (first | exact List.forall_mem_nil _ | (refine List.forall_mem_cons.mpr ⟨?km, ?_⟩; (case km => k_mem)))); (all_goals (intro q' hq'; repeat (first | exact hq' | refine List.Mem.tail _ ?_)))))
    clear N
    k_steps
    unfold Halt
    refine LCg.Assign_ListComp_U (F₀ := F) rfl rfl rfl (by decide) rfl (by decide) rfl rfl rfl ?_
    refine' nameX_L F rfl ?_
    refine LCg.CompSrc.ledger rfl F N' (by k_mem) (by rw [List.size_toArray, hcvl, sizeLine_eq]; omega) ?_
    intro g9
    refine found_rest (fun y => exOr y 0 - no) hkv (by rw [List.size_toArray, hcvl, List.length_map, List.length_range]) (fun us knn => .inr ⟨_, (by k_mem), rfl, _, rfl⟩) ?turn ?fin
    case fin =>
      intro ys knn hys D9 h9 tk9 F9 N9 off9
      w_top off
      have hys2 : IntsAre ys ((List.range (plN kd)).map fun i => fgP (few + more) (r : Int) pr i) := by
        have e : (List.map (fun y => exOr y 0 - no) (List.map (fun i => nm (no - 7 + fgP (few + more) (r : Int) pr i)) (List.range (plN kd)))) = ((List.range (plN kd)).map fun i => fgP (few + more) (r : Int) pr i) := by
          rw [List.map_map]
          refine List.map_congr_left fun i _ => ?_
          have hfg := fgP_pos (n := few + more) (r := (r : Int)) (p := pr) ⟨by omega, by omega⟩ hpr i
          have hszb := szP_pos (r := (r : Int)) (p := pr) ⟨by omega, by omega⟩ hpr i
          show exOr (nm (no - 7 + fgP (few + more) (r : Int) pr i)) 0 - no = _
          rw [(nm_facts (by omega) (by omega)).2.2.2]; omega
        rw [e] at hys; exact hys
      clear hys
      k_steps
      unfold Halt
      rename Fr _ _ _ _ => F5; rename News _ _ _ _ => N5
      rename IntsAre _ (List.take _ _) => htk

      refine' call_figures (a0 := D9) rfl ?qB F5 ?qX N5 ?qT rfl rfl ?q1 ?q2 htk ?q4 ?q5 ?q6 ?_
      case qB => assumption
      case qX => assumption
      case qT => assumption
      case q1 => decide
      case q2 => decide
      case q4 => refine take_pos ?_ ?_ <;> omega
      case q5 => exact take_len _ _ _
      case q6 => exact neA (by omega)
      clear F5 N5
      intro DF vf cf hf tkf F6 N6 lF hvf
      rw [take_figs] at hvf
      k_steps
      unfold Halt
      rename Fr _ _ _ _ => F7; rename News _ _ _ _ => N7
      try dsimp only [List.cons_append, List.nil_append]
      have he0 : (Str.ofString "").cps.toList = [] := by decide
      rw [he0] at hsk
      have N8 := sub_news (l' := (k.DX, k.dx w.params tk1 1) :: (k.SG, listOf vk.toArray nk) :: (k.PB, listOf #[] knn) :: (lC, listOf cvs.toArray cn) :: (c.DX, c.dx w.params t1' ln) :: (c.SG, listOf svs.toArray sn) :: P) N7 (by ((repeat (first | exact List.forall_mem_nil _ | (refine List.forall_mem_cons.mpr ⟨?km, ?_⟩; (case km => k_mem)))); (all_goals (intro q' hq'; repeat (first | exact hq' | refine List.Mem.tail _ ?_)))))
      clear N7
      refine' call_tok (n0 := knn) (c := k) (news := (k.PB, listOf #[] knn) :: (lC, listOf cvs.toArray cn) :: (c.DX, c.dx w.params t1' ln) :: (c.SG, listOf svs.toArray sn) :: P) rfl ok2 ?qB F7 ?qX N8 ?qT codeHd rfl rfl ?q1 ?q2 ?qi ?qo (cs := []) hsk .nil (Nat.zero_le _) ?_
      case qB => assumption
      case qX => assumption
      case qT => assumption
      case q1 => decide
      case q2 => decide
      case qi =>
        have pmk : (k.CO, k.co) ∈ P := by rw [hkco, hco2]; exact pm13
        ((repeat (first | exact List.forall_mem_nil _ | (refine List.forall_mem_cons.mpr ⟨?km, ?_⟩; (case km => k_mem)))); (all_goals (intro q' hq'; repeat (first | exact hq' | refine List.Mem.tail _ ?_))))
      case qo => (repeat (first | exact List.forall_mem_nil _ | with_reducible assumption | (refine List.forall_mem_cons.mpr ⟨⟨?km, ?kn⟩, ?_⟩; (case km => ((try dsimp only); first | with_reducible assumption | exact Ne.symm (by with_reducible assumption) | exact neA (by omega))); (case kn => ((try dsimp only); first | with_reducible assumption | exact Ne.symm (by with_reducible assumption) | exact neA (by omega))))))
      clear F7 N8
      intro ta3 ln3 sv3 sn3 tt3 h30 tk30 F8 N8 _ _
      k_steps
      unfold Halt
      w_top off
      rename Fr _ _ _ _ => F1; rename News _ _ _ _ => N1
      refine LCg.ListComp_U (F₀ := F1) rfl (by decide) rfl (by decide) rfl ?_
      k_steps
      unfold Halt
      k_dflt (refine' kmk_slice_ints ?saF ?saN ?sal ?sap ?saq ?sai ?sam ?sac ?_ ?sas ?sat ?saz; (case saF => k_asm); (case saN => k_asm); (case sal => kmk_list); (case sap => kmk_part); (case saq => kmk_part); (case sai => assumption); (case sam => exact kmk_run (by assumption) (by omega) (by omega)); (case sac => rfl); (case sas => with_unfolding_all rfl); (case sat => kmk_pure); (case saz => (rw [kmk_size_eq (by assumption), lucs_len, PySem.sizeLine_eq]; omega)))
      (intro D' ws' h' F' N' l1 hI' hC' hL'; (try k_lt l1); (try k_sweep))
      try dsimp only
      k_steps
      unfold Halt
      rename Fr _ _ _ _ => F2; rename News _ _ _ _ => N2
      rename IntsAre _ (List.take _ _) => hi1
      rw [run_slice (n := few) (by omega) (by omega) (by omega) (by omega), show (more + 1).toNat = more.toNat + 1 by omega] at hi1
      refine LCg.CompSrc.ledger rfl F2 N2 (by k_mem) (by rw [List.size_toArray, (hi1).length, List.length_map, List.length_range, sizeLine_eq]; omega) ?_
      intro g1
      refine kcf_list (fun y => (vp pr.toNat y.toNat : Int)) hi1 ?turn1 ?fin1
      case turn1 =>
        intro y ty I oI C oC D m₂ ys9 h tk E' hyn hC hmx F9 N9 off9 ne9 _
        have hy0 : 0 < y := by
          obtain ⟨i, _, rfl⟩ := List.mem_map.mp hyn
          exact luc_pos gr pr hpr _ (by omega)
        k_steps
        unfold Halt
        rename Fr _ _ _ _ => F6; rename News _ _ _ _ => N6
        refine' call_times (n := y.toNat) (q := pr.toNat) rfl ?qB F6 ?qX N6 ?qT rfl rfl ?q1 ?q2 ?q3 ?q4 ?q5 ?q6 ?q7 ?_
        case qB => assumption
        case qX => assumption
        case qT => assumption
        case q1 => decide
        case q2 => decide
        case q3 => omega
        case q4 => omega
        case q5 => omega
        case q6 => omega
        case q7 => omega
        clear F6 N6
        intro tr hr9 tkr F7 N7
        k_steps
        unfold Halt
        exact LCg.CompEnd.intro F7 N7 _ (by ((repeat (first | exact List.forall_mem_nil _ | (refine List.forall_mem_cons.mpr ⟨?km, ?_⟩; (case km => k_mem)))); (all_goals (intro q' hq'; repeat (first | exact hq' | refine List.Mem.tail _ ?_))))) off9 (.inr ⟨_, (by k_mem), rfl, _, rfl⟩) ⟨rfl, _, rfl⟩
      case fin1 =>
        unfold KPfDone
        intro ysA hysA DA hA tkA FA NA offA
        clear F2 N2
        k_steps
        unfold Halt
        w_top off
        rename Fr _ _ _ _ => F1; rename News _ _ _ _ => N1
        refine LCg.ListComp_U (F₀ := F1) rfl (by decide) rfl (by decide) rfl ?_
        clear hi1
        k_steps
        unfold Halt
        k_dflt (refine' kmk_slice_ints ?sbF ?sbN ?sbl ?sbp ?sbq ?sbi ?sbm ?sbc ?_ ?sbs ?sbt ?sbz; (case sbF => k_asm); (case sbN => k_asm); (case sbl => kmk_list); (case sbp => kmk_part); (case sbq => kmk_part); (case sbi => assumption); (case sbm => exact kmk_run (by assumption) (by omega) (by omega)); (case sbc => rfl); (case sbs => with_unfolding_all rfl); (case sbt => kmk_pure); (case sbz => (rw [kmk_size_eq (by assumption), lucs_len, PySem.sizeLine_eq]; omega)))
        (intro D' ws' h' F' N' l1 hI' hC' hL'; (try k_lt l1); (try k_sweep))
        try dsimp only
        k_steps
        unfold Halt
        rename Fr _ _ _ _ => F3b; rename News _ _ _ _ => N3b
        rename IntsAre _ (List.take (min _ _ - _) _) => hi2b
        rw [run_slice (n := few) (by omega) (by omega) (by omega) (by omega), show Int.toNat 1 = 1 from rfl] at hi2b
        refine LCg.CompSrc.ledger rfl F3b N3b (by k_mem) (by rw [List.size_toArray, (hi2b).length, List.length_map, List.length_range, sizeLine_eq]; omega) ?_
        intro g2
        refine kcf_list (fun y => (vp pr.toNat y.toNat : Int)) hi2b ?turn2 ?fin2
        case turn2 =>
          intro y ty I oI C oC D m₂ ys9 h tk E' hyn hC hmx F9 N9 off9 ne9 _
          have hy0 : 0 < y := by
            obtain ⟨i, _, rfl⟩ := List.mem_map.mp hyn
            exact luc_pos gr pr hpr _ (by omega)
          k_steps
          unfold Halt
          rename Fr _ _ _ _ => F6; rename News _ _ _ _ => N6
          refine' call_times (n := y.toNat) (q := pr.toNat) rfl ?qB F6 ?qX N6 ?qT rfl rfl ?q1 ?q2 ?q3 ?q4 ?q5 ?q6 ?q7 ?_
          case qB => assumption
          case qX => assumption
          case qT => assumption
          case q1 => decide
          case q2 => decide
          case q3 => omega
          case q4 => omega
          case q5 => omega
          case q6 => omega
          case q7 => omega
          clear F6 N6
          intro tr hr9 tkr F7 N7
          k_steps
          unfold Halt
          exact LCg.CompEnd.intro F7 N7 _ (by ((repeat (first | exact List.forall_mem_nil _ | (refine List.forall_mem_cons.mpr ⟨?km, ?_⟩; (case km => k_mem)))); (all_goals (intro q' hq'; repeat (first | exact hq' | refine List.Mem.tail _ ?_))))) off9 (.inr ⟨_, (by k_mem), rfl, _, rfl⟩) ⟨rfl, _, rfl⟩
        case fin2 =>
          unfold KPfDone
          intro ysB hysB DB hB tkB FB NB offB
          clear F3b N3b
          k_steps
          unfold Halt
          w_top off
          rename Fr _ _ _ _ => F1; rename News _ _ _ _ => N1
          have hlr := luc_pos gr pr hpr r (by omega)
          have hrr : ((r : Int).toNat) = r := by omega
          refine' call_times (n := (luc (rowP gr pr) (rowQ gr pr) r).toNat) (q := pr.toNat) rfl ?qB F1 ?qX N1 ?qT rfl rfl ?q1 ?q2 ?q3 ?q4 ?q5 ?q6 ?q7 ?_
          case qB => assumption
          case qX => assumption
          case qT => assumption
          case q1 => decide
          case q2 => decide
          case q3 => rw [hrr]; omega
          case q4 => omega
          case q5 => omega
          case q6 => omega
          case q7 => omega
          clear F1 N1
          intro trr hrr9 tkrr F2 N2
          k_steps
          unfold Halt
          rename Fr _ _ _ _ => F3; rename News _ _ _ _ => N3
          refine' itemI N3 (by k_mem) hcv (by omega) ?ya (head_get (fun i => cyP few more (r : Int) pr (i + 1)) (by omega)) ?_
          case ya => rw [List.length_map, List.length_range]; omega
          intro tc0
          have hcy1 : cyP few more (r : Int) pr (0 + 1) = 0 ∨ cyP few more (r : Int) pr (0 + 1) = 1 := by
            have hpl := place (a := few) (b := more) (r := (r : Int)) ⟨by omega, by omega⟩ hpr 0 (.inl (cyP0 _ _ _ _))
            rcases Int.lt_or_le (cyP few more (r : Int) pr 0 + fgP few (r : Int) pr 0 + fgP more (r : Int) pr 0) (szP (r : Int) pr 0) with h | h
            · exact .inl (hpl.2 h).1
            · exact .inr (hpl.1 h).1
          have hmul : IntMulOk ((vp pr.toNat (luc (rowP gr pr) (rowQ gr pr) r).toNat : Nat) : Int) (cyP few more (r : Int) pr (0 + 1)) := IntMulOk.of_right (by rcases hcy1 with h | h <;> rw [h] <;> decide)
          k_steps
          all_goals (try (show AllBare gens20; exact hbare))
          · rename _ ≠ _ => hx
            exact absurd (kw_law hpr hfew hmore hR2 hR8 hR0 hRn) hx
          · have hcs0 : cs = [] := by
              have : 5 - plN kd = 0 := by omega
              unfold RdS at hrd'
              rw [this] at hrd'
              exact hrd'
            rw [hcs0] at hbm
            rw [line_count (ln := ln) hbm]
    case turn =>
      intro y ty us knn I oI C oC D m₂ ys h tk E' hyn hul hC F9 N9 off9 ne9
      k_steps
      unfold Halt
      clear N' F
      rename Fr _ _ _ _ => F6; rename News _ _ _ _ => N6
      try dsimp only [List.cons_append, List.nil_append]
      refine' call_tokP (X := k.X) (PB := k.PB) (y := .str y ty) (us := us) (news := (I, oI) :: (C, oC) :: (D, LCg.lst ys) :: (lC, listOf cvs.toArray cn) :: (c.DX, c.dx w.params t1' ln) :: (c.SG, listOf svs.toArray sn) :: (k.DX, k.dx w.params tk1 1) :: (k.SG, listOf vk.toArray nk) :: P) rfl ?qB F6 ?qX (sub_news N6 ?qS) ?qT rfl rfl ?q1 ?q2 ?m1 ?m2 ?q3 ?q4 ?q5 ?_
      case qB => assumption
      case qX => assumption
      case qT => assumption
      case q1 => decide
      case q2 => decide
      case qS => ((repeat (first | exact List.forall_mem_nil _ | (refine List.forall_mem_cons.mpr ⟨?km, ?_⟩; (case km => k_mem)))); (all_goals (intro q' hq'; repeat (first | exact hq' | refine List.Mem.tail _ ?_))))
      case m1 => k_mem
      case m2 => k_mem
      case q3 =>
        rw [sizeLine_eq]
        have : ((List.range (plN kd)).map fun i => nm (no - 7 + fgP (few + more) (r : Int) pr i)).length = plN kd := by rw [List.length_map, List.length_range]
        omega
      case q4 => exact f87 0
      case q5 =>
        refine List.forall_mem_cons.mpr ⟨Ne.symm off9.1.1, List.forall_mem_cons.mpr ⟨Ne.symm off9.1.2.1, List.forall_mem_cons.mpr ⟨Ne.symm off9.1.2.2, ?_⟩⟩⟩
        (repeat (first | exact List.forall_mem_nil _ | with_reducible assumption | (refine List.forall_mem_cons.mpr ⟨?km, ?_⟩; (case km => ((try dsimp only); first | with_reducible assumption | exact Ne.symm (by with_reducible assumption) | exact neA (by omega))))))
      clear N6
      intro h23 tk23 F7 N7
      clear F6
      k_steps
      unfold Halt
      rename Fr _ _ _ _ => F8; rename News _ _ _ _ => N8
      exact LCg.CompEnd.intro F8 N8 ((k.PB, listOf us.toArray (knn + 1)) :: (lC, listOf cvs.toArray cn) :: (c.DX, c.dx w.params t1' ln) :: (c.SG, listOf svs.toArray sn) :: (k.DX, k.dx w.params tk1 1) :: (k.SG, listOf vk.toArray nk) :: P) (by ((repeat (first | exact List.forall_mem_nil _ | (refine List.forall_mem_cons.mpr ⟨?km, ?_⟩; (case km => k_mem)))); (all_goals (intro q' hq'; repeat (first | exact hq' | refine List.Mem.tail _ ?_))))) ⟨off9.1, off9.2⟩ (.inr ⟨_, (by k_mem), rfl, _, rfl⟩) ⟨rfl, _, rfl⟩
  case first =>
    clear hPk2
    refine for_law (fun prog A' => LoopI prog w A' (ghostOf s₁.heap [(86, 82)]) s₁.heap.objs.size s₁ (fun cy ct sv tv => (lw5 (lw3 (lw2 (.ref sc0) gv oth t2 lk t3 few t4 more t5 D1 r t8) DN dS kd t9) x (if kd = 0 then 6 else 5) tpl DW xt tt c.X lC cy ct sv tv).m)
      ((k.DX, k.dx w.params tk1 1) :: (k.SG, listOf vk.toArray nk) :: P)
      w.params no few more r pr kd (bumps xt.cps.toList 1) c lC k.PB x hLast.objs.size (listOf rv.toArray 0)) 8 ?iter ?turn
    case iter =>
      k_steps
      unfold Halt
      have hNx := N21 (x, listOf rv.toArray 0) (by k_mem)
      refine' call_gen rfl ?gB F19 ?gX ?gT rfl rfl ?g1 ?g2 hrv (rul_gen hkd ⟨by omega, by omega⟩ hpr) hNx.1 hNx.2.2 ?_
      case gB => assumption
      case gX => assumption
      case gT => assumption
      case g1 => decide
      case g2 => decide
      intro h₁ ta tb tc gs ob hk hob hlt hbare hG
      refine wpAny_pyIter_gen (g := s₁.gens.size) ⟨_, _, _, Heap.get?_push_size _ rfl, rfl, rfl, rfl⟩ ?_
      refine ⟨_, rfl, ?_⟩
      refine gen_start (sn := nc) (t1 := tc1) F19 N21 hk hob hlt hbare hg hG hsc (by rw [← hWR, wrP5] at hrd; exact hrd) (by omega)
    case turn =>
      rintro it n _ ⟨j, h, tk, gens, gi, gs, of', oi, ix, ta, tb, tc, rfl, rfl, hj, ⟨cvs, kvs, svs, cn, kn, sn, cs, t1', ln, ct, sv, tv, F, N, hcv, hkv, hsv, hrd', hcl, hbm, hcy⟩, hgs, hbare, hG, hne, hgo⟩
      clear F19 N21
      have ni1 : @Ne Nat it c.DX := Nat.ne_of_gt (Nat.lt_trans hg2 hgo.2)
      have ni2 : @Ne Nat it c.SG := Nat.ne_of_gt (Nat.lt_trans hg3 hgo.2)
      have ni3 : @Ne Nat it k.PB := Nat.ne_of_gt (Nat.lt_trans hg1 hgo.2)
      have ni4 : @Ne Nat it lC := Nat.ne_of_gt (Nat.lt_trans hgo.1 hgo.2)
      have ni5 : @Ne Nat hLast.objs.size c.DX := Nat.ne_of_gt hg2
      have ni6 : @Ne Nat hLast.objs.size c.SG := Nat.ne_of_gt hg3
      have ni7 : @Ne Nat hLast.objs.size k.PB := Nat.ne_of_gt hg1
      have ni8 : @Ne Nat hLast.objs.size lC := Nat.ne_of_gt hgo.1
      have hj6 : j ≤ 6 := Nat.le_trans hj (by unfold plN; split <;> omega)
      have hq : 8 - j = (7 - j) + 1 := by omega
      rw [hq] at hG
      refine gen_next (n := 7 - j) (rest := (lC, listOf cvs.toArray cn) :: (k.PB, listOf kvs.toArray kn) :: (c.DX, c.dx w.params t1' ln) :: (c.SG, listOf svs.toArray sn) :: (it, genOb gi ta tb tc) :: (k.DX, k.dx w.params tk1 1) :: (k.SG, listOf vk.toArray nk) :: P) (of' := of') rfl ((Top.nolimit (by assumption)).keeps F.keep) (show callerA.depth + 1 < recursionLimit by decide) F N ⟨_, _, _, (N (it, genOb gi ta tb tc) (.tail _ (.tail _ (.tail _ (.tail _ (.head _)))))).1, rfl, rfl, rfl⟩ hgs hG ?gO (.tail _ (.tail _ (.tail _ (.tail _ (.tail _ (.head _)))))) (.tail _ (.tail _ (.tail _ (.tail _ (.tail _ (.tail _ (.tail _ (.tail _ (.tail _ pm15))))))))) ?gR ?gY ?gE
      case gO => exact List.forall_mem_cons.mpr ⟨.tail _ (.tail _ (.tail _ (.tail _ (.tail _ (.head _))))), List.forall_mem_cons.mpr ⟨.tail _ (.tail _ (.tail _ (.tail _ (.tail _ (.tail _ (.head _)))))), List.forall_mem_nil _⟩⟩
      case gR =>
        refine List.forall_mem_cons.mpr ⟨⟨.head _, Nat.ne_of_lt hgo.1, it_list⟩, ?_⟩
        refine List.forall_mem_cons.mpr ⟨⟨.tail _ (.head _), Nat.ne_of_lt hg1, it_list⟩, ?_⟩
        refine List.forall_mem_cons.mpr ⟨⟨(.tail _ (.tail _ (.head _))), Nat.ne_of_lt hg2, ?_⟩, ?_⟩
        · exact it_dx (c := c)
        refine List.forall_mem_cons.mpr ⟨⟨(.tail _ (.tail _ (.tail _ (.head _)))), Nat.ne_of_lt hg3, it_list⟩, ?_⟩
        refine List.forall_mem_cons.mpr ⟨⟨(.tail _ (.tail _ (.tail _ (.tail _ (.head _))))), Nat.ne_of_gt hgo.2, it_gen (gi := gi) (ta := ta) (tb := tb) (tc := tc)⟩, ?_⟩
        exact fun q hq => ⟨(.tail _ (.tail _ (.tail _ (.tail _ (.tail _ (.tail _ (.tail _ (hq)))))))), Nat.ne_of_lt (hPg q hq), hPi q hq⟩
      case gE =>
        w_top off
        intro h' tk' hen F' N'
        obtain ⟨hk0, h8⟩ := hen
        have hj5 : j = plN kd := by unfold plN; rw [if_neg hk0]; omega
        refine ⟨h', tk', _, rfl, rfl, ?_, bare_set hbare rfl rfl⟩
        rw [← hj5]
        refine ⟨cvs, kvs, svs, cn, kn, sn, cs, t1', ln, ct, sv, tv, F', sub_news N' ?_, hcv, hkv, hsv, hrd', hcl, hbm, hcy⟩
        intro q hq
        rcases List.mem_cons.mp hq with h | hq
        · exact h ▸ .head _
        rcases List.mem_cons.mp hq with h | hq
        · exact h ▸ .tail _ (.head _)
        rcases List.mem_cons.mp hq with h | hq
        · exact h ▸ .tail _ (.tail _ (.head _))
        rcases List.mem_cons.mp hq with h | hq
        · exact h ▸ .tail _ (.tail _ (.tail _ (.head _)))
        exact .tail _ (.tail _ (.tail _ (.tail _ (.tail _ hq))))
      case gY =>
        intro t gs' o2 it2 oi2 h' tk' F' N' hb2 hit2 hyl hG2
        clear F N
        have hcvl : cvs.length = j := by rw [hcv.length, List.length_map, List.length_range]
        have e1 := ne_it N' (.tail _ (.head _)) (.tail _ (.tail _ (.head _))) hit2 it_list
        have e2 := ne_it N' (.tail _ (.head _)) (.tail _ (.tail _ (.tail _ (.head _)))) hit2 it_list
        have e3 := ne_it N' (.tail _ (.head _)) (.tail _ (.tail _ (.tail _ (.tail _ (.head _))))) hit2 it_dx
        have e4 := ne_it N' (.tail _ (.head _)) (.tail _ (.tail _ (.tail _ (.tail _ (.tail _ (.head _)))))) hit2 it_list
        k_steps
        · w_top off
          rename Fr _ _ _ _ => F8; rename News _ _ _ _ => N8
          have hj7 : j = 6 := by omega
          have hkd0 : kd = 0 := by
            rcases hyl with h | h
            · exact h
            · omega
          have hj6' : j = plN kd := by unfold plN; rw [if_pos hkd0]; exact hj7
          show LoopD _ _ _ _ _ _ _ _ _ _ _ _ _ _ _ _ _ _
          refine ⟨_, _, _, rfl, rfl, ?_, bare_set hbare rfl hb2⟩
          rw [← hj6']
          refine ⟨cvs, kvs, svs, cn, kn, sn, cs, t1', ln, ct, some _, tv, Fr.lw F8 (lw_ext ⟨rfl, rfl, rfl, rfl, rfl, rfl, rfl, rfl, rfl, rfl, rfl, rfl, rfl, rfl, rfl, rfl, rfl, rfl, rfl, rfl, rfl, rfl⟩ (by
            intro y h1 h2 h3 h4 h5 h6 h7 h8 h9 h10 h11 h12 h13 h14 h15 h16 h17 h18 h19 h20 h21 h22
            (repeat (first | exact lw_none _ h1 h2 h3 h4 h5 h6 h7 h8 h9 h10 h11 h12 h13 h14 h15 h16 h17 h18 h19 h20 h21 h22 | refine (if_neg (by assumption)).trans ?_)))), sub_news N8 ?_, hcv, hkv, hsv, hrd', hcl, hbm, hcy⟩
          ((repeat (first | exact List.forall_mem_nil _ | (refine List.forall_mem_cons.mpr ⟨?km, ?_⟩; (case km => k_mem)))); (all_goals (intro q' hq'; repeat (first | exact hq' | refine List.Mem.tail _ ?_))))
        unfold Halt
        have hj5 : j ≤ 5 := by omega
        obtain ⟨tok1, rs1, tok2, rs2, hA1, hE1, hA2, hE2, hR2s⟩ := rd_step ⟨by omega, by omega⟩ hpr ⟨by omega, by omega⟩ ⟨by omega, by omega⟩ hj5 hrd'
        have hl1 := rdA_len hA1
        have hl2 := rdA_len hA2
        rename Fr _ _ _ _ => F1; rename News _ _ _ _ => N1
        try dsimp only [List.cons_append, List.nil_append]
        refine' call_tok (news := (lC, listOf cvs.toArray cn) :: (k.PB, listOf kvs.toArray kn) :: (it, genOb gi ta tb tc) :: (hLast.objs.size, o2) :: (it2, oi2) :: (k.DX, k.dx w.params tk1 1) :: (k.SG, listOf vk.toArray nk) :: P) rfl ok ?qB F1 ?qX (sub_news N1 ?qS) ?qT codeHd rfl rfl ?q1 ?q2 ?qi ?qo hsv hA1 ?ql ?_
        case qB => assumption
        case qX => assumption
        case qT => assumption
        case q1 => decide
        case q2 => decide
        case qS => ((repeat (first | exact List.forall_mem_nil _ | (refine List.forall_mem_cons.mpr ⟨?km, ?_⟩; (case km => k_mem)))); (all_goals (intro q' hq'; repeat (first | exact hq' | refine List.Mem.tail _ ?_))))
        case qi => ((repeat (first | exact List.forall_mem_nil _ | (refine List.forall_mem_cons.mpr ⟨?km, ?_⟩; (case km => k_mem)))); (all_goals (intro q' hq'; repeat (first | exact hq' | refine List.Mem.tail _ ?_))))
        case qo => (repeat (first | exact List.forall_mem_nil _ | with_reducible assumption | (refine List.forall_mem_cons.mpr ⟨⟨?km, ?kn⟩, ?_⟩; (case km => ((try dsimp only); first | with_reducible assumption | exact Ne.symm (by with_reducible assumption) | exact neA (by omega))); (case kn => ((try dsimp only); first | with_reducible assumption | exact Ne.symm (by with_reducible assumption) | exact neA (by omega))))))
        case ql => omega
        clear F1 N1
        intro ta1 ln1 sv1 sn1 tt1 h21 tk21 F1 N1 hsv1 hb1
        k_steps
        unfold Halt
        rename Fr _ _ _ _ => F2; rename News _ _ _ _ => N2
        try dsimp only [List.cons_append, List.nil_append]
        refine' call_tok (news := (lC, listOf cvs.toArray cn) :: (k.PB, listOf kvs.toArray kn) :: (it, genOb gi ta tb tc) :: (hLast.objs.size, o2) :: (it2, oi2) :: (k.DX, k.dx w.params tk1 1) :: (k.SG, listOf vk.toArray nk) :: P) rfl ok ?qB F2 ?qX N2 ?qT codeHd rfl rfl ?q1 ?q2 ?qi ?qo hsv1 hA2 ?ql ?_
        case qB => assumption
        case qX => assumption
        case qT => assumption
        case q1 => decide
        case q2 => decide
        case qi => ((repeat (first | exact List.forall_mem_nil _ | (refine List.forall_mem_cons.mpr ⟨?km, ?_⟩; (case km => k_mem)))); (all_goals (intro q' hq'; repeat (first | exact hq' | refine List.Mem.tail _ ?_))))
        case qo => (repeat (first | exact List.forall_mem_nil _ | with_reducible assumption | (refine List.forall_mem_cons.mpr ⟨⟨?km, ?kn⟩, ?_⟩; (case km => ((try dsimp only); first | with_reducible assumption | exact Ne.symm (by with_reducible assumption) | exact neA (by omega))); (case kn => ((try dsimp only); first | with_reducible assumption | exact Ne.symm (by with_reducible assumption) | exact neA (by omega))))))
        case ql => omega
        clear F2 N2
        intro ta2 ln2 sv2 sn2 tt2 h22 tk22 F2 N2 hsv2 hb2
        k_steps
        · unfold Halt
          w_top off
          rename 256 ≤ _ => hcmp
          have hsz := vP_sz (r : Int) pr hj6
          have hpl := (place (a := few) (b := more) (r := (r : Int)) ⟨by omega, by omega⟩ hpr j hcy).1 (by rw [← hsz]; omega)
          have hfg := fgP_pos (n := few + more) (r := (r : Int)) (p := pr) ⟨by omega, by omega⟩ hpr j
          have hszb := szP_pos (r := (r : Int)) (p := pr) ⟨by omega, by omega⟩ hpr j
          have hix : no - 7 + (cyP few more (r : Int) pr j + exOr ⟨tok1.toArray⟩ no - no + (exOr ⟨tok2.toArray⟩ no - no)) - 1 * vP (r : Int) pr (7 - j) = no - 7 + fgP (few + more) (r : Int) pr j := by rw [hpl.2, hE1, hE2, hsz]; omega
          rename Fr _ _ _ _ => F5; rename News _ _ _ _ => N5
          refine' itemNm N5 ?wm hn ?wa ?wb ?_
          case wm => k_mem
          case wa => omega
          case wb => omega
          intro tn1
          k_steps
          unfold Halt
          rename Fr _ _ _ _ => F6; rename News _ _ _ _ => N6
          try dsimp only [List.cons_append, List.nil_append]
          have hkvl : kvs.length = j := by rw [hkv.length, List.length_map, List.length_range]
          refine' call_push (X := k.X) (PB := k.PB) (us := kvs) (news := (lC, listOf (cvs ++ [Value.int 1 _]).toArray _) :: (c.DX, c.dx w.params ta2 ln2) :: (c.SG, listOf sv2.toArray sn2) :: (it, genOb gi ta tb tc) :: (hLast.objs.size, o2) :: (it2, oi2) :: (k.DX, k.dx w.params tk1 1) :: (k.SG, listOf vk.toArray nk) :: P) rfl ?qB F6 ?qX (sub_news N6 ?qS) ?qT rfl rfl ?q1 ?q2 ?m1 ?m2 ?q3 ?q4 ?q5 ?_
          case qB => assumption
          case qX => assumption
          case qT => assumption
          case q1 => decide
          case q2 => decide
          case qS => ((repeat (first | exact List.forall_mem_nil _ | (refine List.forall_mem_cons.mpr ⟨?km, ?_⟩; (case km => k_mem)))); (all_goals (intro q' hq'; repeat (first | exact hq' | refine List.Mem.tail _ ?_))))
          case m1 => k_mem
          case m2 => k_mem
          case q3 => rw [sizeLine_eq]; omega
          case q4 => exact f87 0
          case q5 => (repeat (first | exact List.forall_mem_nil _ | with_reducible assumption | (refine List.forall_mem_cons.mpr ⟨?km, ?_⟩; (case km => ((try dsimp only); first | with_reducible assumption | exact Ne.symm (by with_reducible assumption) | exact neA (by omega))))))
          clear N6
          intro h23 tk23 F7 N7
          clear F6
          k_steps
          have F8 := Fr.lw F7 (v := lw5 (lw3 (lw2 (.ref sc0) gv oth t2 lk t3 few t4 more t5 D1 r t8) DN dS kd t9) x (if kd = 0 then 6 else 5) tpl DW xt tt c.X lC 1 _ (some _) (some _)) (lw_ext ⟨rfl, rfl, rfl, rfl, rfl, rfl, rfl, rfl, rfl, rfl, rfl, rfl, rfl, rfl, rfl, rfl, rfl, rfl, rfl, rfl, rfl, rfl⟩ (by
            intro y h1 h2 h3 h4 h5 h6 h7 h8 h9 h10 h11 h12 h13 h14 h15 h16 h17 h18 h19 h20 h21 h22
            (repeat (first | exact lw_none _ h1 h2 h3 h4 h5 h6 h7 h8 h9 h10 h11 h12 h13 h14 h15 h16 h17 h18 h19 h20 h21 h22 | refine (if_neg (by assumption)).trans ?_))))
          show Again _ _ _
          refine' loop_again (ty := tn1) (sn := sn2) (t1 := ta2) (ta := ta) (tb := tb) (tc := tc) hj5 hyl (by rw [hpl.1]; exact F8) (sub_news N7 ?qS) hcv hpl.1.symm hkv (congrArg nm hix) hsv2 hR2s (by omega) (hb2.trans (hb1.trans hbm)) (.inr hpl.1) hgs hbare (by assumption) hG2 ⟨e1, e2, e3, e4⟩ hgo
          case qS => ((repeat (first | exact List.forall_mem_nil _ | (refine List.forall_mem_cons.mpr ⟨?km, ?_⟩; (case km => k_mem)))); (all_goals (intro q' hq'; repeat (first | exact hq' | refine List.Mem.tail _ ?_))))
        · unfold Halt
          w_top off
          rename ¬ 256 ≤ _ => hcmp
          have hsz := vP_sz (r : Int) pr hj6
          have hpl := (place (a := few) (b := more) (r := (r : Int)) ⟨by omega, by omega⟩ hpr j hcy).2 (by rw [← hsz]; omega)
          have hfg := fgP_pos (n := few + more) (r := (r : Int)) (p := pr) ⟨by omega, by omega⟩ hpr j
          have hszb := szP_pos (r := (r : Int)) (p := pr) ⟨by omega, by omega⟩ hpr j
          have hix : no - 7 + (cyP few more (r : Int) pr j + exOr ⟨tok1.toArray⟩ no - no + (exOr ⟨tok2.toArray⟩ no - no)) - 0 * vP (r : Int) pr (7 - j) = no - 7 + fgP (few + more) (r : Int) pr j := by rw [hpl.2, hE1, hE2, hsz]; omega
          rename Fr _ _ _ _ => F5; rename News _ _ _ _ => N5
          refine' itemNm N5 ?wm hn ?wa ?wb ?_
          case wm => k_mem
          case wa => omega
          case wb => omega
          intro tn1
          k_steps
          unfold Halt
          rename Fr _ _ _ _ => F6; rename News _ _ _ _ => N6
          try dsimp only [List.cons_append, List.nil_append]
          have hkvl : kvs.length = j := by rw [hkv.length, List.length_map, List.length_range]
          refine' call_push (X := k.X) (PB := k.PB) (us := kvs) (news := (lC, listOf (cvs ++ [Value.int 0 _]).toArray _) :: (c.DX, c.dx w.params ta2 ln2) :: (c.SG, listOf sv2.toArray sn2) :: (it, genOb gi ta tb tc) :: (hLast.objs.size, o2) :: (it2, oi2) :: (k.DX, k.dx w.params tk1 1) :: (k.SG, listOf vk.toArray nk) :: P) rfl ?qB F6 ?qX (sub_news N6 ?qS) ?qT rfl rfl ?q1 ?q2 ?m1 ?m2 ?q3 ?q4 ?q5 ?_
          case qB => assumption
          case qX => assumption
          case qT => assumption
          case q1 => decide
          case q2 => decide
          case qS => ((repeat (first | exact List.forall_mem_nil _ | (refine List.forall_mem_cons.mpr ⟨?km, ?_⟩; (case km => k_mem)))); (all_goals (intro q' hq'; repeat (first | exact hq' | refine List.Mem.tail _ ?_))))
          case m1 => k_mem
          case m2 => k_mem
          case q3 => rw [sizeLine_eq]; omega
          case q4 => exact f87 0
          case q5 => (repeat (first | exact List.forall_mem_nil _ | with_reducible assumption | (refine List.forall_mem_cons.mpr ⟨?km, ?_⟩; (case km => ((try dsimp only); first | with_reducible assumption | exact Ne.symm (by with_reducible assumption) | exact neA (by omega))))))
          clear N6
          intro h23 tk23 F7 N7
          clear F6
          k_steps
          have F8 := Fr.lw F7 (v := lw5 (lw3 (lw2 (.ref sc0) gv oth t2 lk t3 few t4 more t5 D1 r t8) DN dS kd t9) x (if kd = 0 then 6 else 5) tpl DW xt tt c.X lC 0 _ (some _) (some _)) (lw_ext ⟨rfl, rfl, rfl, rfl, rfl, rfl, rfl, rfl, rfl, rfl, rfl, rfl, rfl, rfl, rfl, rfl, rfl, rfl, rfl, rfl, rfl, rfl⟩ (by
            intro y h1 h2 h3 h4 h5 h6 h7 h8 h9 h10 h11 h12 h13 h14 h15 h16 h17 h18 h19 h20 h21 h22
            (repeat (first | exact lw_none _ h1 h2 h3 h4 h5 h6 h7 h8 h9 h10 h11 h12 h13 h14 h15 h16 h17 h18 h19 h20 h21 h22 | refine (if_neg (by assumption)).trans ?_))))
          show Again _ _ _
          refine' loop_again (ty := tn1) (sn := sn2) (t1 := ta2) (ta := ta) (tb := tb) (tc := tc) hj5 hyl (by rw [hpl.1]; exact F8) (sub_news N7 ?qS) hcv hpl.1.symm hkv (congrArg nm hix) hsv2 hR2s (by omega) (hb2.trans (hb1.trans hbm)) (.inl hpl.1) hgs hbare (by assumption) hG2 ⟨e1, e2, e3, e4⟩ hgo
          case qS => ((repeat (first | exact List.forall_mem_nil _ | (refine List.forall_mem_cons.mpr ⟨?km, ?_⟩; (case km => k_mem)))); (all_goals (intro q' hq'; repeat (first | exact hq' | refine List.Mem.tail _ ?_)))))
end Mine
end
end
section
open PySem PySem.W PyProof.Rows
set_option compiler.extract_closed false
namespace Mine
set_option maxRecDepth 100000
set_option maxHeartbeats 8000000
/-! the kit's head would make a twin (a copy with quick names) of each of these constants; where the twin's name is taken it makes none -/
theorem hd.tw1011335219593555734 : True := trivial
theorem hd.tw10125589475264959297 : True := trivial
theorem hd.tw10170382586518783626 : True := trivial
theorem hd.tw10258999931320997221 : True := trivial
theorem hd.tw10458740792067480800 : True := trivial
theorem hd.tw10601615944963115059 : True := trivial
theorem hd.tw10792051664901133789 : True := trivial
theorem hd.tw11041590408114104254 : True := trivial
theorem hd.tw11210553801493137410 : True := trivial
theorem hd.tw11232374478483605306 : True := trivial
theorem hd.tw11319097763535126812 : True := trivial
theorem hd.tw11660266114150955751 : True := trivial
theorem hd.tw11917015161858427179 : True := trivial
theorem hd.tw11953376511379268794 : True := trivial
theorem hd.tw12070051907170230399 : True := trivial
theorem hd.tw12487502673411948298 : True := trivial
theorem hd.tw12901994302517312135 : True := trivial
theorem hd.tw13225837485096350037 : True := trivial
theorem hd.tw13267510147771200024 : True := trivial
theorem hd.tw13330244855972007585 : True := trivial
theorem hd.tw13828106393651249627 : True := trivial
theorem hd.tw14091984216438838776 : True := trivial
theorem hd.tw14103535550066685397 : True := trivial
theorem hd.tw1413172679324656950 : True := trivial
theorem hd.tw14168552714766633299 : True := trivial
theorem hd.tw14246236162039180721 : True := trivial
theorem hd.tw14727110085682223627 : True := trivial
theorem hd.tw15089522573102190283 : True := trivial
theorem hd.tw15527848837575444561 : True := trivial
theorem hd.tw15595854959937240912 : True := trivial
theorem hd.tw15616948245753086127 : True := trivial
theorem hd.tw15759970867653108152 : True := trivial
theorem hd.tw15790720579355451973 : True := trivial
theorem hd.tw15833661619300960221 : True := trivial
theorem hd.tw15967140613478806237 : True := trivial
theorem hd.tw16037735763661986305 : True := trivial
theorem hd.tw16056359734778111409 : True := trivial
theorem hd.tw16091413853298234908 : True := trivial
theorem hd.tw16194383521188589630 : True := trivial
theorem hd.tw16259696140248634718 : True := trivial
theorem hd.tw16345102440705955213 : True := trivial
theorem hd.tw16432713993328977331 : True := trivial
theorem hd.tw16945582573551092051 : True := trivial
theorem hd.tw17054507655720011243 : True := trivial
theorem hd.tw17087091549796120035 : True := trivial
theorem hd.tw17177331786930743035 : True := trivial
theorem hd.tw17542962492245011380 : True := trivial
theorem hd.tw17574625026820762457 : True := trivial
theorem hd.tw17650839729002327288 : True := trivial
theorem hd.tw17672654358674132775 : True := trivial
theorem hd.tw17950676927832955104 : True := trivial
theorem hd.tw18103342009636024947 : True := trivial
theorem hd.tw18322514126500204803 : True := trivial
theorem hd.tw2068664650715991707 : True := trivial
theorem hd.tw2114630138375439770 : True := trivial
theorem hd.tw2195365466389143174 : True := trivial
theorem hd.tw22551697357593593 : True := trivial
theorem hd.tw2867327485932766208 : True := trivial
theorem hd.tw2930668341846507884 : True := trivial
theorem hd.tw3039998526598829958 : True := trivial
theorem hd.tw3219085151875037572 : True := trivial
theorem hd.tw3229955645248102723 : True := trivial
theorem hd.tw3451239065008710300 : True := trivial
theorem hd.tw3530705653197291679 : True := trivial
theorem hd.tw3571134770919094901 : True := trivial
theorem hd.tw3673089383077640791 : True := trivial
theorem hd.tw4086058157674990017 : True := trivial
theorem hd.tw4115565904173853331 : True := trivial
theorem hd.tw4225703048834024713 : True := trivial
theorem hd.tw4272726840584523970 : True := trivial
theorem hd.tw4402725079659364252 : True := trivial
theorem hd.tw4425926697756232486 : True := trivial
theorem hd.tw4494801613693538912 : True := trivial
theorem hd.tw5148922909946612681 : True := trivial
theorem hd.tw5190246844813560578 : True := trivial
theorem hd.tw5511420028821071320 : True := trivial
theorem hd.tw5567388512258382067 : True := trivial
theorem hd.tw5688689073270430877 : True := trivial
theorem hd.tw6019021122589006684 : True := trivial
theorem hd.tw6082411064634330575 : True := trivial
theorem hd.tw6196171512934965099 : True := trivial
theorem hd.tw6291416237084387574 : True := trivial
theorem hd.tw6293948785866598258 : True := trivial
theorem hd.tw6305734824756694309 : True := trivial
theorem hd.tw6407587892757256292 : True := trivial
theorem hd.tw6411954120941647267 : True := trivial
theorem hd.tw6442067068224118133 : True := trivial
theorem hd.tw6767318904944593275 : True := trivial
theorem hd.tw6785817131721698500 : True := trivial
theorem hd.tw6820862383352777685 : True := trivial
theorem hd.tw701787995468756871 : True := trivial
theorem hd.tw7028611270464810887 : True := trivial
theorem hd.tw7296583596125217682 : True := trivial
theorem hd.tw7752216883906862206 : True := trivial
theorem hd.tw7752767780024739350 : True := trivial
theorem hd.tw7914949630228597729 : True := trivial
theorem hd.tw8226494294326810461 : True := trivial
theorem hd.tw8343274005884668182 : True := trivial
theorem hd.tw8457440626546761165 : True := trivial
theorem hd.tw8458067239894703972 : True := trivial
theorem hd.tw8959176491354863721 : True := trivial
theorem hd.tw922143313871775805 : True := trivial
theorem hd.tw9277588360372424766 : True := trivial
theorem hd.tw9421340871869096474 : True := trivial
theorem hd.tw9641152695372364146 : True := trivial
theorem hd.tw9672033268824171116 : True := trivial
theorem hd.tw9673543361469618366 : True := trivial
theorem hd.tw9719896912496429819 : True := trivial
theorem hd.tw9960721518486171458 : True := trivial
set_option Elab.async true in
theorem hd : Mine.rwv.Holds := by
  w_on
  o_law
  o_head (kmHook hd.heap_39 [2, 3, 6, 15, 17, 18, 20, 21, 29, 31, 32, 34, 35, 36, 38, 39, 41, 42, 43, 45, 46, 48, 49, 50, 52, 53, 55, 56, 57, 58, 59, 60, 61, 64, 67, 69, 70, 72, 73, 74, 76, 77, 79, 80, 81, 83, 84, 86, 87, 88, 90, 91, 93, 94, 95, 97, 98, 100, 101, 102, 104, 105, 107, 108, 109, 112, 113, 114, 117, 118] (fun _ => by kernel_rfl) [82])
  case hw => w_witness2
  exact law_walk
end Mine
end
open PySem PySem.W PyProof.Rows
theorem PySem.Challenge.cw_st0012_01_holds : PySem.Challenge.rw_st0012_01.Holds :=
  Mine.rwv_eq ▸ Mine.hd
