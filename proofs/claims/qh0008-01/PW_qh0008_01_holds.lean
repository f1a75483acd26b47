import PyProof.Rows.All
import Wide.All
import OpenK.AllK
import Wide.FinOn
import PyProof.ExcStrAll.ValueError
import Lean
import PySem.Challenge.RW_qh0008_01
set_option Elab.async false
set_option rowWalk.seconds 0
local macro_rules | `(tactic| walk_at $s:str) => `(tactic| k_extra $s)

section
open PySem PySem.W PyProof.Rows
set_option Elab.async false
namespace Mine
noncomputable def at8 : Pos := ⟨8, 17, 8, 37⟩
noncomputable def let8 : PySem.Expr := PySem.Expr.Constant (PySem.Const.str "a") 0 at8
/-- a stand-in for the frozenset's statement: four objects, the first one the world's, 45 marks -/
noncomputable def stand : PySem.Stmt := PySem.Stmt.Assign [(PySem.Expr.Name "HEXDIGIT_CHARS" at8)]
  (PySem.Expr.Subscript (PySem.Expr.Tuple [PySem.Expr.List [PySem.Expr.Call (PySem.Expr.Attribute (PySem.Expr.JoinedStr (List.replicate 41 let8) at8) "__hash__" at8) [] [] at8] at8, PySem.Expr.List [] at8, PySem.Expr.List [] at8] 0 at8)
    (PySem.Expr.Constant (PySem.Const.int 0) 0 at8) at8) ⟨8, 0, 8, 37⟩
noncomputable def p' : PySem.Program := { PySem.Challenge.pw_qh0008_01 with main := { PySem.Challenge.pw_qh0008_01.main with body := PySem.Challenge.pw_qh0008_01.main.body.set 5 stand } }
/-- the parts of the text's i-th statement, a def: parameters, body, scope -/
noncomputable def fnParts (i : Nat) : Arguments × List PySem.Stmt × Scope := match PySem.Challenge.pw_qh0008_01.main.body[i]? with
  | some (.FunctionDef _ a b _ _ _ s _ _ _) => (a, b, s)
  | _ => (default, [], default)
noncomputable def stAt (i : Nat) : Option PySem.Stmt := p'.main.body[i]?
set_option maxRecDepth 100000
set_option maxHeartbeats 0
/-- the view: the statements of the top that are kept -/
noncomputable def hd.view_39 : Program := (fun (c0 : PySem.Stmt) (_ : stAt 0 = some c0) (c1 : PySem.Stmt) (_ : stAt 1 = some c1) (c2 : PySem.Stmt) (_ : stAt 2 = some c2) (c3 : PySem.Stmt) (_ : stAt 3 = some c3) (c5 : PySem.Stmt) (_ : stAt 5 = some c5) (c6 : PySem.Stmt) (_ : stAt 6 = some c6) (c7 : PySem.Stmt) (_ : stAt 7 = some c7) (c8 : PySem.Stmt) (_ : stAt 8 = some c8) (c9 : PySem.Stmt) (_ : stAt 9 = some c9) (c11 : PySem.Stmt) (_ : stAt 11 = some c11) (c12 : PySem.Stmt) (_ : stAt 12 = some c12) (c13 : PySem.Stmt) (_ : stAt 13 = some c13) (c15 : PySem.Stmt) (_ : stAt 15 = some c15) (c16 : PySem.Stmt) (_ : stAt 16 = some c16) (c17 : PySem.Stmt) (_ : stAt 17 = some c17) (c18 : PySem.Stmt) (_ : stAt 18 = some c18) (c19 : PySem.Stmt) (_ : stAt 19 = some c19) (c20 : PySem.Stmt) (_ : stAt 20 = some c20) (c23 : PySem.Stmt) (_ : stAt 23 = some c23) (c25 : PySem.Stmt) (_ : stAt 25 = some c25) (c26 : PySem.Stmt) (_ : stAt 26 = some c26) (c27 : PySem.Stmt) (_ : stAt 27 = some c27) (c28 : PySem.Stmt) (_ : stAt 28 = some c28) (c32 : PySem.Stmt) (_ : stAt 32 = some c32) (c35 : PySem.Stmt) (_ : stAt 35 = some c35) (c36 : PySem.Stmt) (_ : stAt 36 = some c36) (c37 : PySem.Stmt) (_ : stAt 37 = some c37) (c38 : PySem.Stmt) (_ : stAt 38 = some c38) (c39 : PySem.Stmt) (_ : stAt 39 = some c39) =>
  ({ p' with main := { p'.main with body := [c0, c1, c2, c3, c5, c6, c7, c8, c9, c11, c12, c13, c15, c16, c17, c18, c19, c20, c23, c25, c26, c27, c28, c32, c35, c36, c37, c38, c39] } } : Program)) _ rfl _ rfl _ rfl _ rfl _ rfl _ rfl _ rfl _ rfl _ rfl _ rfl _ rfl _ rfl _ rfl _ rfl _ rfl _ rfl _ rfl _ rfl _ rfl _ rfl _ rfl _ rfl _ rfl _ rfl _ rfl _ rfl _ rfl _ rfl _ rfl
/-- the part of the heap behind the top that is written out -/
noncomputable def hd.heap_39 : Params → Frag := fun P => (fun (a1 : Arguments) (b1 : List PySem.Stmt) (s1 : Scope) (_ : fnParts 1 = (a1, b1, s1)) (a7 : Arguments) (b7 : List PySem.Stmt) (s7 : Scope) (_ : fnParts 7 = (a7, b7, s7)) (a8 : Arguments) (b8 : List PySem.Stmt) (s8 : Scope) (_ : fnParts 8 = (a8, b8, s8)) (a9 : Arguments) (b9 : List PySem.Stmt) (s9 : Scope) (_ : fnParts 9 = (a9, b9, s9)) (a13 : Arguments) (b13 : List PySem.Stmt) (s13 : Scope) (_ : fnParts 13 = (a13, b13, s13)) (a16 : Arguments) (b16 : List PySem.Stmt) (s16 : Scope) (_ : fnParts 16 = (a16, b16, s16)) (a17 : Arguments) (b17 : List PySem.Stmt) (s17 : Scope) (_ : fnParts 17 = (a17, b17, s17)) (a18 : Arguments) (b18 : List PySem.Stmt) (s18 : Scope) (_ : fnParts 18 = (a18, b18, s18)) (a20 : Arguments) (b20 : List PySem.Stmt) (s20 : Scope) (_ : fnParts 20 = (a20, b20, s20)) (a21 : Arguments) (b21 : List PySem.Stmt) (s21 : Scope) (_ : fnParts 21 = (a21, b21, s21)) (a22 : Arguments) (b22 : List PySem.Stmt) (s22 : Scope) (_ : fnParts 22 = (a22, b22, s22)) (a24 : Arguments) (b24 : List PySem.Stmt) (s24 : Scope) (_ : fnParts 24 = (a24, b24, s24)) (a26 : Arguments) (b26 : List PySem.Stmt) (s26 : Scope) (_ : fnParts 26 = (a26, b26, s26)) (a27 : Arguments) (b27 : List PySem.Stmt) (s27 : Scope) (_ : fnParts 27 = (a27, b27, s27)) (a30 : Arguments) (b30 : List PySem.Stmt) (s30 : Scope) (_ : fnParts 30 = (a30, b30, s30)) (a31 : Arguments) (b31 : List PySem.Stmt) (s31 : Scope) (_ : fnParts 31 = (a31, b31, s31)) (a32 : Arguments) (b32 : List PySem.Stmt) (s32 : Scope) (_ : fnParts 32 = (a32, b32, s32)) (a33 : Arguments) (b33 : List PySem.Stmt) (s33 : Scope) (_ : fnParts 33 = (a33, b33, s33)) (a35 : Arguments) (b35 : List PySem.Stmt) (s35 : Scope) (_ : fnParts 35 = (a35, b35, s35)) (a36 : Arguments) (b36 : List PySem.Stmt) (s36 : Scope) (_ : fnParts 36 = (a36, b36, s36)) (a37 : Arguments) (b37 : List PySem.Stmt) (s37 : Scope) (_ : fnParts 37 = (a37, b37, s37)) (a38 : Arguments) (b38 : List PySem.Stmt) (s38 : Scope) (_ : fnParts 38 = (a38, b38, s38)) (a39 : Arguments) (b39 : List PySem.Stmt) (s39 : Scope) (_ : fnParts 39 = (a39, b39, s39)) =>
  ((nat_lit 2, { cls := Value.none, data := Data.dict #[{ hash := PyData.keyHash P (Str.ofString "\x69mport.loaded._sre"), key := Value.str (Str.ofString "\x69mport.loaded._sre") (183 : Nat), val := Value.bool true }, { hash := PyData.keyHash P (Str.ofString "class._frozen_\x69mportlib.BuiltinImporter"), key := Value.str (Str.ofString "class._frozen_\x69mportlib.BuiltinImporter") (185 : Nat), val := Value.ref (14 : Nat) }, { hash := PyData.keyHash P (Str.ofString "watched.\x69mport"), key := Value.str (Str.ofString "watched.\x69mport") (206 : Nat), val := Value.ref (18 : Nat) }, { hash := PyData.keyHash P (Str.ofString "class._frozen_\x69mportlib.ModuleSpec"), key := Value.str (Str.ofString "class._frozen_\x69mportlib.ModuleSpec") (216 : Nat), val := Value.ref (22 : Nat) }, { hash := PyData.keyHash P (Str.ofString "sys.modules.booked-epoch"), key := Value.str (Str.ofString "sys.modules.booked-epoch") (245 : Nat), val := Value.int (3 : Int) (0 : Nat) }, { hash := PyData.keyHash P (Str.ofString "\x69mport.later-laid._sre"), key := Value.str (Str.ofString "\x69mport.later-laid._sre") (270 : Nat), val := Value.bool true }, { hash := PyData.keyHash P (Str.ofString "watched.library"), key := Value.str (Str.ofString "watched.library") (272 : Nat), val := Value.ref (27 : Nat) }, { hash := PyData.keyHash P (Str.ofString "watched.library-objects"), key := Value.str (Str.ofString "watched.library-objects") (0 : Nat), val := Value.str (Str.ofString "\x0c") (0 : Nat) }, { hash := PyData.keyHash P (Str.ofString "watched.library-deep._sre"), key := Value.str (Str.ofString "watched.library-deep._sre") (273 : Nat), val := Value.str (Str.ofString "\x04\x00\x00\x0b\x04\x00\x00\x0b\x04\x00\x00\x03\x04\x00\x00\x0b\x08\x04dict\x02") (0 : Nat) }] (9 : Nat) }) ::
  (nat_lit 3, { cls := Value.type "dict", data := Data.dict (List.toArray (({ hash := PyData.keyHash P (Str.ofString "__name__"), key := Value.str (Str.ofString "__name__") (165 : Nat), val := Value.str (Str.ofString "law_qh0008_01") (581 : Nat) }) :: ({ hash := PyData.keyHash P (Str.ofString "__doc__"), key := Value.str (Str.ofString "__doc__") (166 : Nat), val := Value.none }) :: ({ hash := PyData.keyHash P (Str.ofString "__package__"), key := Value.str (Str.ofString "__package__") (167 : Nat), val := Value.none }) :: ({ hash := PyData.keyHash P (Str.ofString "__loader__"), key := Value.str (Str.ofString "__loader__") (168 : Nat), val := Value.builtin "__main__.__loader__#opaque" }) :: ({ hash := PyData.keyHash P (Str.ofString "__spec__"), key := Value.str (Str.ofString "__spec__") (169 : Nat), val := Value.none }) :: ({ hash := PyData.keyHash P (Str.ofString "__annotations__"), key := Value.str (Str.ofString "__annotations__") (170 : Nat), val := Value.ref (6 : Nat) }) :: ({ hash := PyData.keyHash P (Str.ofString "__builtins__"), key := Value.str (Str.ofString "__builtins__") (171 : Nat), val := Value.ref (4 : Nat) }) :: ({ hash := PyData.keyHash P (Str.ofString "__file__"), key := Value.str (Str.ofString "__file__") (173 : Nat), val := Value.str (Str.ofString "/claim/cut.py") (172 : Nat) }) :: ({ hash := PyData.keyHash P (Str.ofString "__cached__"), key := Value.str (Str.ofString "__cached__") (174 : Nat), val := Value.none }) :: ({ hash := PyData.keyHash P (Str.ofString "_sre"), key := Value.str (Str.ofString "_sre") (275 : Nat), val := Value.ref (12 : Nat) }) :: ({ hash := PyData.keyHash P (Str.ofString "_wall"), key := Value.str (Str.ofString "_wall") (288 : Nat), val := Value.ref (38 : Nat) }) :: ({ hash := PyData.keyHash P (Str.ofString "digits"), key := Value.str (Str.ofString "digits") (290 : Nat), val := Value.str (Str.ofString "0123456789") (289 : Nat) }) :: ({ hash := PyData.keyHash P (Str.ofString "hexdigits"), key := Value.str (Str.ofString "hexdigits") (295 : Nat), val := Value.str (Str.ofString "0123456789abcdefABCDEF") (294 : Nat) }) :: ({ hash := PyData.keyHash P (Str.ofString "HEXDIGIT_CHARS"), key := Value.str (Str.ofString "HEXDIGIT_CHARS") (342 : Nat), val := Value.ref (39 : Nat) }) :: ({ hash := PyData.keyHash P (Str.ofString "TOMLDecodeError"), key := Value.str (Str.ofString "TOMLDecodeError") (360 : Nat), val := Value.ref (52 : Nat) }) :: ({ hash := PyData.keyHash P (Str.ofString "parse_hex_char"), key := Value.str (Str.ofString "parse_hex_char") (371 : Nat), val := Value.ref (62 : Nat) }) :: ({ hash := PyData.keyHash P (Str.ofString "suffixed_err"), key := Value.str (Str.ofString "suffixed_err") (381 : Nat), val := Value.ref (69 : Nat) }) :: ({ hash := PyData.keyHash P (Str.ofString "is_unicode_scalar_value"), key := Value.str (Str.ofString "is_unicode_scalar_value") (388 : Nat), val := Value.ref (76 : Nat) }) :: ({ hash := PyData.keyHash P (Str.ofString "_twin_re_1"), key := Value.str (Str.ofString "_twin_re_1") (420 : Nat), val := Value.ref (81 : Nat) }) :: ({ hash := PyData.keyHash P (Str.ofString "bytes_types"), key := Value.str (Str.ofString "bytes_types") (421 : Nat), val := Value.ref (82 : Nat) }) :: ({ hash := PyData.keyHash P (Str.ofString "_bytes_from_decode_data"), key := Value.str (Str.ofString "_bytes_from_decode_data") (428 : Nat), val := Value.ref (89 : Nat) }) :: ({ hash := PyData.keyHash P (Str.ofString "Error"), key := Value.str (Str.ofString "Error") (448 : Nat), val := Value.ref (99 : Nat) }) :: ({ hash := PyData.keyHash P (Str.ofString "_ascii_buffer"), key := Value.str (Str.ofString "_ascii_buffer") (456 : Nat), val := Value.ref (109 : Nat) }) :: ({ hash := PyData.keyHash P (Str.ofString "_buffer"), key := Value.str (Str.ofString "_buffer") (464 : Nat), val := Value.ref (116 : Nat) }) :: ({ hash := PyData.keyHash P (Str.ofString "_truth"), key := Value.str (Str.ofString "_truth") (472 : Nat), val := Value.ref (123 : Nat) }) :: ({ hash := PyData.keyHash P (Str.ofString "_B64"), key := Value.str (Str.ofString "_B64") (474 : Nat), val := Value.bytes (List.toArray (((65 : UInt8)) :: ((66 : UInt8)) :: ((67 : UInt8)) :: ((68 : UInt8)) :: ((69 : UInt8)) :: ((70 : UInt8)) :: ((71 : UInt8)) :: ((72 : UInt8)) :: ((73 : UInt8)) :: ((74 : UInt8)) :: ((75 : UInt8)) :: ((76 : UInt8)) :: ((77 : UInt8)) :: ((78 : UInt8)) :: ((79 : UInt8)) :: ((80 : UInt8)) :: ((81 : UInt8)) :: ((82 : UInt8)) :: ((83 : UInt8)) :: ((84 : UInt8)) :: ((85 : UInt8)) :: ((86 : UInt8)) :: ((87 : UInt8)) :: ((88 : UInt8)) :: ((89 : UInt8)) :: ((90 : UInt8)) :: ((97 : UInt8)) :: ((98 : UInt8)) :: ((99 : UInt8)) :: ((100 : UInt8)) :: ((101 : UInt8)) :: ((102 : UInt8)) :: ((103 : UInt8)) :: ((104 : UInt8)) :: ((105 : UInt8)) :: ((106 : UInt8)) :: ((107 : UInt8)) :: ((108 : UInt8)) :: ((109 : UInt8)) :: ((110 : UInt8)) :: ((111 : UInt8)) :: ((112 : UInt8)) :: ((113 : UInt8)) :: ((114 : UInt8)) :: ((115 : UInt8)) :: ((116 : UInt8)) :: ((117 : UInt8)) :: ((118 : UInt8)) :: ((119 : UInt8)) :: ((120 : UInt8)) :: ((121 : UInt8)) :: ((122 : UInt8)) :: ((48 : UInt8)) :: ((49 : UInt8)) :: ((50 : UInt8)) :: ((51 : UInt8)) :: ((52 : UInt8)) :: ((53 : UInt8)) :: ((54 : UInt8)) :: ((55 : UInt8)) :: ((56 : UInt8)) :: ((57 : UInt8)) :: ((43 : UInt8)) :: ((47 : UInt8)) :: [])) (473 : Nat) }) :: ({ hash := PyData.keyHash P (Str.ofString "_b64_value"), key := Value.str (Str.ofString "_b64_value") (481 : Nat), val := Value.ref (130 : Nat) }) :: ({ hash := PyData.keyHash P (Str.ofString "a2b_base64"), key := Value.str (Str.ofString "a2b_base64") (497 : Nat), val := Value.ref (138 : Nat) }) :: ({ hash := PyData.keyHash P (Str.ofString "b2a_base64"), key := Value.str (Str.ofString "b2a_base64") (511 : Nat), val := Value.ref (146 : Nat) }) :: ({ hash := PyData.keyHash P (Str.ofString "_NO_SEP"), key := Value.str (Str.ofString "_NO_SEP") (512 : Nat), val := Value.ref (147 : Nat) }) :: ({ hash := PyData.keyHash P (Str.ofString "b2a_hex"), key := Value.str (Str.ofString "b2a_hex") (523 : Nat), val := Value.ref (155 : Nat) }) :: ({ hash := PyData.keyHash P (Str.ofString "hexlify"), key := Value.str (Str.ofString "hexlify") (524 : Nat), val := Value.ref (155 : Nat) }) :: ({ hash := PyData.keyHash P (Str.ofString "_hex_value"), key := Value.str (Str.ofString "_hex_value") (531 : Nat), val := Value.ref (162 : Nat) }) :: ({ hash := PyData.keyHash P (Str.ofString "a2b_hex"), key := Value.str (Str.ofString "a2b_hex") (544 : Nat), val := Value.ref (169 : Nat) }) :: ({ hash := PyData.keyHash P (Str.ofString "unhexlify"), key := Value.str (Str.ofString "unhexlify") (545 : Nat), val := Value.ref (169 : Nat) }) :: ({ hash := PyData.keyHash P (Str.ofString "b64encode"), key := Value.str (Str.ofString "b64encode") (556 : Nat), val := Value.ref (177 : Nat) }) :: ({ hash := PyData.keyHash P (Str.ofString "b64decode"), key := Value.str (Str.ofString "b64decode") (565 : Nat), val := Value.ref (185 : Nat) }) :: ({ hash := PyData.keyHash P (Str.ofString "b16encode"), key := Value.str (Str.ofString "b16encode") (572 : Nat), val := Value.ref (192 : Nat) }) :: ({ hash := PyData.keyHash P (Str.ofString "b16decode"), key := Value.str (Str.ofString "b16decode") (580 : Nat), val := Value.ref (200 : Nat) }) :: ({ hash := PyData.keyHash P (Str.ofString "_law_sixes"), key := Value.str (Str.ofString "_law_sixes") (588 : Nat), val := Value.ref (205 : Nat) }) :: ({ hash := PyData.keyHash P (Str.ofString "_law_figures"), key := Value.str (Str.ofString "_law_figures") (594 : Nat), val := Value.ref (210 : Nat) }) :: ({ hash := PyData.keyHash P (Str.ofString "_law_told"), key := Value.str (Str.ofString "_law_told") (604 : Nat), val := Value.ref (217 : Nat) }) :: ({ hash := PyData.keyHash P (Str.ofString "_law_due"), key := Value.str (Str.ofString "_law_due") (614 : Nat), val := Value.ref (224 : Nat) }) :: ({ hash := PyData.keyHash P (Str.ofString "law"), key := Value.str (Str.ofString "law") (620 : Nat), val := Value.ref (229 : Nat) }) :: [])) (44 : Nat) }) ::
  (nat_lit 32, { cls := Value.type "tuple", data := Data.seq #[] }) ::
  (nat_lit 34, { cls := Value.type "tuple", data := Data.seq #[Value.str (Str.ofString "k") (285 : Nat)] }) ::
  (nat_lit 35, { cls := Value.type "tuple", data := Data.seq #[] }) ::
  (nat_lit 37, { cls := Value.type "code", data := Data.fields #[Value.str (Str.ofString "_wall") (282 : Nat), Value.str (Str.ofString "_wall") (283 : Nat), Value.str (Str.ofString "/claim/cut.py") (284 : Nat), Value.int (2 : Int) (0 : Nat), Value.int (1 : Int) (0 : Nat), Value.int (0 : Int) (0 : Nat), Value.int (0 : Int) (0 : Nat), Value.int (3 : Int) (0 : Nat), Value.ref (32 : Nat), Value.bool true, Value.int (276 : Int) (0 : Nat), Value.ref (33 : Nat), Value.none, Value.ref (34 : Nat), Value.ref (35 : Nat), Value.ref (36 : Nat), Value.int (286 : Int) (0 : Nat), Value.int (2 : Int) (0 : Nat), Value.str (Str.ofString "/claim/cut.py") (287 : Nat)] }) ::
  (nat_lit 38, { cls := Value.type "function", data := Data.func { name := Str.ofString "_wall", qualname := Str.ofString "_wall", params := a1, body := FuncBody.stmts b1, scope := s1, globals := (3 : Nat), closure := ([] : List (PySem.Str × Nat)), defaults := Value.none, kwdefaults := Value.none, pyModule := Value.str (Str.ofString "__main__") (164 : Nat), code := Value.ref (37 : Nat) } }) ::
  (nat_lit 43, { cls := Value.type "tuple", data := Data.seq #[Value.type "ValueError"] }) ::
  (nat_lit 50, { cls := Value.type "tuple", data := Data.seq #[] }) ::
  (nat_lit 51, { cls := Value.type "dict", data := Data.dict #[{ hash := PyData.keyHash P (Str.ofString "__module__"), key := Value.str (Str.ofString "__module__") (350 : Nat), val := Value.str (Str.ofString "cpy313.tomllib._parser") (296 : Nat) }, { hash := PyData.keyHash P (Str.ofString "__firstlineno__"), key := Value.str (Str.ofString "__firstlineno__") (354 : Nat), val := Value.int (9 : Int) (353 : Nat) }, { hash := PyData.keyHash P (Str.ofString "__static_attributes__"), key := Value.str (Str.ofString "__static_attributes__") (355 : Nat), val := Value.ref (50 : Nat) }, { hash := PyData.keyHash P (Str.ofString "__weakref__"), key := Value.str (Str.ofString "__weakref__") (357 : Nat), val := Value.ref (53 : Nat) }, { hash := PyData.keyHash P (Str.ofString "__doc__"), key := Value.str (Str.ofString "__doc__") (358 : Nat), val := Value.none }] (3 : Nat) }) ::
  (nat_lit 52, { cls := Value.type "type", data := Data.cls { name := Str.ofString "TOMLDecodeError", bases := [Value.type "ValueError"], mro := [Value.ref (52 : Nat), Value.type "ValueError", Value.type "Exception", Value.type "BaseException", Value.type "object"], ns := (51 : Nat), qualname := Str.ofString "TOMLDecodeError" }, slots := #[some (Value.ref (43 : Nat)), none, some (Value.str (Str.ofString "TOMLDecodeError") (343 : Nat)), some (Value.str (Str.ofString "TOMLDecodeError") (351 : Nat)), some (Value.builtin "ValueError.__new__"), some (Value.bool true)] }) ::
  (nat_lit 53, { cls := Value.type "getset_descriptor", data := Data.fields #[Value.str (Str.ofString "__weakref__") (356 : Nat), Value.ref (52 : Nat), Value.builtin "ExceptionGroup.__weakref__", Value.none] }) ::
  (nat_lit 56, { cls := Value.type "tuple", data := Data.seq #[] }) ::
  (nat_lit 58, { cls := Value.type "tuple", data := Data.seq #[Value.str (Str.ofString "src") (364 : Nat), Value.str (Str.ofString "pos") (365 : Nat), Value.str (Str.ofString "hex_len") (366 : Nat), Value.str (Str.ofString "hex_str") (367 : Nat), Value.str (Str.ofString "hex_int") (368 : Nat)] }) ::
  (nat_lit 59, { cls := Value.type "tuple", data := Data.seq #[] }) ::
  (nat_lit 61, { cls := Value.type "code", data := Data.fields #[Value.str (Str.ofString "parse_hex_char") (361 : Nat), Value.str (Str.ofString "parse_hex_char") (362 : Nat), Value.str (Str.ofString "/claim/cut.py") (363 : Nat), Value.int (11 : Int) (0 : Nat), Value.int (3 : Int) (0 : Nat), Value.int (0 : Int) (0 : Nat), Value.int (0 : Int) (0 : Nat), Value.int (3 : Int) (0 : Nat), Value.ref (56 : Nat), Value.bool true, Value.int (276 : Int) (0 : Nat), Value.ref (57 : Nat), Value.none, Value.ref (58 : Nat), Value.ref (59 : Nat), Value.ref (60 : Nat), Value.int (369 : Int) (0 : Nat), Value.int (11 : Int) (0 : Nat), Value.str (Str.ofString "/claim/cut.py") (370 : Nat)] }) ::
  (nat_lit 62, { cls := Value.type "function", data := Data.func { name := Str.ofString "parse_hex_char", qualname := Str.ofString "parse_hex_char", params := a7, body := FuncBody.stmts b7, scope := s7, globals := (3 : Nat), closure := ([] : List (PySem.Str × Nat)), defaults := Value.none, kwdefaults := Value.none, pyModule := Value.str (Str.ofString "cpy313.tomllib._parser") (296 : Nat), code := Value.ref (61 : Nat) } }) ::
  (nat_lit 63, { cls := Value.type "tuple", data := Data.seq #[] }) ::
  (nat_lit 65, { cls := Value.type "tuple", data := Data.seq #[Value.str (Str.ofString "src") (375 : Nat), Value.str (Str.ofString "pos") (376 : Nat), Value.str (Str.ofString "msg") (377 : Nat), Value.str (Str.ofString "coord_repr") (378 : Nat)] }) ::
  (nat_lit 66, { cls := Value.type "tuple", data := Data.seq #[] }) ::
  (nat_lit 68, { cls := Value.type "code", data := Data.fields #[Value.str (Str.ofString "suffixed_err") (372 : Nat), Value.str (Str.ofString "suffixed_err") (373 : Nat), Value.str (Str.ofString "/claim/cut.py") (374 : Nat), Value.int (20 : Int) (0 : Nat), Value.int (3 : Int) (0 : Nat), Value.int (0 : Int) (0 : Nat), Value.int (0 : Int) (0 : Nat), Value.int (3 : Int) (0 : Nat), Value.ref (63 : Nat), Value.bool true, Value.int (276 : Int) (0 : Nat), Value.ref (64 : Nat), Value.none, Value.ref (65 : Nat), Value.ref (66 : Nat), Value.ref (67 : Nat), Value.int (379 : Int) (0 : Nat), Value.int (20 : Int) (0 : Nat), Value.str (Str.ofString "/claim/cut.py") (380 : Nat)] }) ::
  (nat_lit 69, { cls := Value.type "function", data := Data.func { name := Str.ofString "suffixed_err", qualname := Str.ofString "suffixed_err", params := a8, body := FuncBody.stmts b8, scope := s8, globals := (3 : Nat), closure := ([] : List (PySem.Str × Nat)), defaults := Value.none, kwdefaults := Value.none, pyModule := Value.str (Str.ofString "cpy313.tomllib._parser") (296 : Nat), code := Value.ref (68 : Nat) } }) ::
  (nat_lit 70, { cls := Value.type "tuple", data := Data.seq #[] }) ::
  (nat_lit 72, { cls := Value.type "tuple", data := Data.seq #[Value.str (Str.ofString "codepoint") (385 : Nat)] }) ::
  (nat_lit 73, { cls := Value.type "tuple", data := Data.seq #[] }) ::
  (nat_lit 75, { cls := Value.type "code", data := Data.fields #[Value.str (Str.ofString "is_unicode_scalar_value") (382 : Nat), Value.str (Str.ofString "is_unicode_scalar_value") (383 : Nat), Value.str (Str.ofString "/claim/cut.py") (384 : Nat), Value.int (32 : Int) (0 : Nat), Value.int (1 : Int) (0 : Nat), Value.int (0 : Int) (0 : Nat), Value.int (0 : Int) (0 : Nat), Value.int (3 : Int) (0 : Nat), Value.ref (70 : Nat), Value.bool true, Value.int (276 : Int) (0 : Nat), Value.ref (71 : Nat), Value.none, Value.ref (72 : Nat), Value.ref (73 : Nat), Value.ref (74 : Nat), Value.int (386 : Int) (0 : Nat), Value.int (32 : Int) (0 : Nat), Value.str (Str.ofString "/claim/cut.py") (387 : Nat)] }) ::
  (nat_lit 76, { cls := Value.type "function", data := Data.func { name := Str.ofString "is_unicode_scalar_value", qualname := Str.ofString "is_unicode_scalar_value", params := a9, body := FuncBody.stmts b9, scope := s9, globals := (3 : Nat), closure := ([] : List (PySem.Str × Nat)), defaults := Value.none, kwdefaults := Value.none, pyModule := Value.str (Str.ofString "cpy313.tomllib._parser") (296 : Nat), code := Value.ref (75 : Nat) } }) ::
  (nat_lit 80, { cls := Value.type "tuple", data := Data.seq #[Value.int (14 : Int) (0 : Nat), Value.int (12 : Int) (0 : Nat), Value.int (4 : Int) (0 : Nat), Value.int (1 : Int) (0 : Nat), Value.int (1 : Int) (0 : Nat), Value.int (21 : Int) (0 : Nat), Value.int (22 : Int) (0 : Nat), Value.int (48 : Int) (0 : Nat), Value.int (57 : Int) (0 : Nat), Value.int (22 : Int) (0 : Nat), Value.int (65 : Int) (0 : Nat), Value.int (70 : Int) (0 : Nat), Value.int (0 : Int) (0 : Nat), Value.int (13 : Int) (0 : Nat), Value.int (9 : Int) (0 : Nat), Value.int (21 : Int) (0 : Nat), Value.int (22 : Int) (0 : Nat), Value.int (48 : Int) (0 : Nat), Value.int (57 : Int) (0 : Nat), Value.int (22 : Int) (0 : Nat), Value.int (65 : Int) (0 : Nat), Value.int (70 : Int) (0 : Nat), Value.int (0 : Int) (0 : Nat), Value.int (1 : Int) (0 : Nat)] }) ::
  (nat_lit 81, { cls := Value.type "re.Pattern", data := Data.fields #[Value.bytes #[(91 : UInt8), (94 : UInt8), (48 : UInt8), (45 : UInt8), (57 : UInt8), (65 : UInt8), (45 : UInt8), (70 : UInt8), (93 : UInt8)] (392 : Nat), Value.int (0 : Int) (419 : Nat), Value.int (0 : Int) (0 : Nat), Value.none, Value.none, Value.ref (80 : Nat), Value.int (1 : Int) (0 : Nat)] }) ::
  (nat_lit 82, { cls := Value.type "tuple", data := Data.seq #[Value.type "bytes", Value.type "bytearray"] }) ::
  (nat_lit 83, { cls := Value.type "tuple", data := Data.seq #[] }) ::
  (nat_lit 85, { cls := Value.type "tuple", data := Data.seq #[Value.str (Str.ofString "s") (425 : Nat)] }) ::
  (nat_lit 86, { cls := Value.type "tuple", data := Data.seq #[] }) ::
  (nat_lit 88, { cls := Value.type "code", data := Data.fields #[Value.str (Str.ofString "_bytes_from_decode_data") (422 : Nat), Value.str (Str.ofString "_bytes_from_decode_data") (423 : Nat), Value.str (Str.ofString "/claim/cut.py") (424 : Nat), Value.int (37 : Int) (0 : Nat), Value.int (1 : Int) (0 : Nat), Value.int (0 : Int) (0 : Nat), Value.int (0 : Int) (0 : Nat), Value.int (3 : Int) (0 : Nat), Value.ref (83 : Nat), Value.bool true, Value.int (276 : Int) (0 : Nat), Value.ref (84 : Nat), Value.none, Value.ref (85 : Nat), Value.ref (86 : Nat), Value.ref (87 : Nat), Value.int (426 : Int) (0 : Nat), Value.int (37 : Int) (0 : Nat), Value.str (Str.ofString "/claim/cut.py") (427 : Nat)] }) ::
  (nat_lit 89, { cls := Value.type "function", data := Data.func { name := Str.ofString "_bytes_from_decode_data", qualname := Str.ofString "_bytes_from_decode_data", params := a13, body := FuncBody.stmts b13, scope := s13, globals := (3 : Nat), closure := ([] : List (PySem.Str × Nat)), defaults := Value.none, kwdefaults := Value.none, pyModule := Value.str (Str.ofString "cpy313.base64") (389 : Nat), code := Value.ref (88 : Nat) } }) ::
  (nat_lit 90, { cls := Value.type "tuple", data := Data.seq #[Value.type "ValueError"] }) ::
  (nat_lit 97, { cls := Value.type "tuple", data := Data.seq #[] }) ::
  (nat_lit 98, { cls := Value.type "dict", data := Data.dict #[{ hash := PyData.keyHash P (Str.ofString "__module__"), key := Value.str (Str.ofString "__module__") (438 : Nat), val := Value.str (Str.ofString "binascii") (429 : Nat) }, { hash := PyData.keyHash P (Str.ofString "__firstlineno__"), key := Value.str (Str.ofString "__firstlineno__") (442 : Nat), val := Value.int (50 : Int) (441 : Nat) }, { hash := PyData.keyHash P (Str.ofString "__static_attributes__"), key := Value.str (Str.ofString "__static_attributes__") (443 : Nat), val := Value.ref (97 : Nat) }, { hash := PyData.keyHash P (Str.ofString "__weakref__"), key := Value.str (Str.ofString "__weakref__") (445 : Nat), val := Value.ref (100 : Nat) }, { hash := PyData.keyHash P (Str.ofString "__doc__"), key := Value.str (Str.ofString "__doc__") (446 : Nat), val := Value.none }] (3 : Nat) }) ::
  (nat_lit 99, { cls := Value.type "type", data := Data.cls { name := Str.ofString "Error", bases := [Value.type "ValueError"], mro := [Value.ref (99 : Nat), Value.type "ValueError", Value.type "Exception", Value.type "BaseException", Value.type "object"], ns := (98 : Nat), qualname := Str.ofString "Error" }, slots := #[some (Value.ref (90 : Nat)), none, some (Value.str (Str.ofString "Error") (431 : Nat)), some (Value.str (Str.ofString "Error") (439 : Nat)), some (Value.builtin "ValueError.__new__"), some (Value.bool true)] }) ::
  (nat_lit 100, { cls := Value.type "getset_descriptor", data := Data.fields #[Value.str (Str.ofString "__weakref__") (444 : Nat), Value.ref (99 : Nat), Value.builtin "ExceptionGroup.__weakref__", Value.none] }) ::
  (nat_lit 103, { cls := Value.type "tuple", data := Data.seq #[] }) ::
  (nat_lit 105, { cls := Value.type "tuple", data := Data.seq #[Value.str (Str.ofString "data") (452 : Nat), Value.str (Str.ofString "t") (453 : Nat)] }) ::
  (nat_lit 106, { cls := Value.type "tuple", data := Data.seq #[] }) ::
  (nat_lit 108, { cls := Value.type "code", data := Data.fields #[Value.str (Str.ofString "_ascii_buffer") (449 : Nat), Value.str (Str.ofString "_ascii_buffer") (450 : Nat), Value.str (Str.ofString "/claim/cut.py") (451 : Nat), Value.int (52 : Int) (0 : Nat), Value.int (1 : Int) (0 : Nat), Value.int (0 : Int) (0 : Nat), Value.int (0 : Int) (0 : Nat), Value.int (3 : Int) (0 : Nat), Value.ref (103 : Nat), Value.bool true, Value.int (276 : Int) (0 : Nat), Value.ref (104 : Nat), Value.none, Value.ref (105 : Nat), Value.ref (106 : Nat), Value.ref (107 : Nat), Value.int (454 : Int) (0 : Nat), Value.int (52 : Int) (0 : Nat), Value.str (Str.ofString "/claim/cut.py") (455 : Nat)] }) ::
  (nat_lit 109, { cls := Value.type "function", data := Data.func { name := Str.ofString "_ascii_buffer", qualname := Str.ofString "_ascii_buffer", params := a16, body := FuncBody.stmts b16, scope := s16, globals := (3 : Nat), closure := ([] : List (PySem.Str × Nat)), defaults := Value.none, kwdefaults := Value.none, pyModule := Value.str (Str.ofString "binascii") (429 : Nat), code := Value.ref (108 : Nat) } }) ::
  (nat_lit 110, { cls := Value.type "tuple", data := Data.seq #[] }) ::
  (nat_lit 112, { cls := Value.type "tuple", data := Data.seq #[Value.str (Str.ofString "data") (460 : Nat), Value.str (Str.ofString "t") (461 : Nat)] }) ::
  (nat_lit 113, { cls := Value.type "tuple", data := Data.seq #[] }) ::
  (nat_lit 115, { cls := Value.type "code", data := Data.fields #[Value.str (Str.ofString "_buffer") (457 : Nat), Value.str (Str.ofString "_buffer") (458 : Nat), Value.str (Str.ofString "/claim/cut.py") (459 : Nat), Value.int (63 : Int) (0 : Nat), Value.int (1 : Int) (0 : Nat), Value.int (0 : Int) (0 : Nat), Value.int (0 : Int) (0 : Nat), Value.int (3 : Int) (0 : Nat), Value.ref (110 : Nat), Value.bool true, Value.int (276 : Int) (0 : Nat), Value.ref (111 : Nat), Value.none, Value.ref (112 : Nat), Value.ref (113 : Nat), Value.ref (114 : Nat), Value.int (462 : Int) (0 : Nat), Value.int (63 : Int) (0 : Nat), Value.str (Str.ofString "/claim/cut.py") (463 : Nat)] }) ::
  (nat_lit 116, { cls := Value.type "function", data := Data.func { name := Str.ofString "_buffer", qualname := Str.ofString "_buffer", params := a17, body := FuncBody.stmts b17, scope := s17, globals := (3 : Nat), closure := ([] : List (PySem.Str × Nat)), defaults := Value.none, kwdefaults := Value.none, pyModule := Value.str (Str.ofString "binascii") (429 : Nat), code := Value.ref (115 : Nat) } }) ::
  (nat_lit 117, { cls := Value.type "tuple", data := Data.seq #[] }) ::
  (nat_lit 119, { cls := Value.type "tuple", data := Data.seq #[Value.str (Str.ofString "x") (468 : Nat), Value.str (Str.ofString "t") (469 : Nat)] }) ::
  (nat_lit 120, { cls := Value.type "tuple", data := Data.seq #[] }) ::
  (nat_lit 122, { cls := Value.type "code", data := Data.fields #[Value.str (Str.ofString "_truth") (465 : Nat), Value.str (Str.ofString "_truth") (466 : Nat), Value.str (Str.ofString "/claim/cut.py") (467 : Nat), Value.int (70 : Int) (0 : Nat), Value.int (1 : Int) (0 : Nat), Value.int (0 : Int) (0 : Nat), Value.int (0 : Int) (0 : Nat), Value.int (3 : Int) (0 : Nat), Value.ref (117 : Nat), Value.bool true, Value.int (276 : Int) (0 : Nat), Value.ref (118 : Nat), Value.none, Value.ref (119 : Nat), Value.ref (120 : Nat), Value.ref (121 : Nat), Value.int (470 : Int) (0 : Nat), Value.int (70 : Int) (0 : Nat), Value.str (Str.ofString "/claim/cut.py") (471 : Nat)] }) ::
  (nat_lit 123, { cls := Value.type "function", data := Data.func { name := Str.ofString "_truth", qualname := Str.ofString "_truth", params := a18, body := FuncBody.stmts b18, scope := s18, globals := (3 : Nat), closure := ([] : List (PySem.Str × Nat)), defaults := Value.none, kwdefaults := Value.none, pyModule := Value.str (Str.ofString "binascii") (429 : Nat), code := Value.ref (122 : Nat) } }) ::
  (nat_lit 124, { cls := Value.type "tuple", data := Data.seq #[] }) ::
  (nat_lit 126, { cls := Value.type "tuple", data := Data.seq #[Value.str (Str.ofString "c") (478 : Nat)] }) ::
  (nat_lit 127, { cls := Value.type "tuple", data := Data.seq #[] }) ::
  (nat_lit 129, { cls := Value.type "code", data := Data.fields #[Value.str (Str.ofString "_b64_value") (475 : Nat), Value.str (Str.ofString "_b64_value") (476 : Nat), Value.str (Str.ofString "/claim/cut.py") (477 : Nat), Value.int (76 : Int) (0 : Nat), Value.int (1 : Int) (0 : Nat), Value.int (0 : Int) (0 : Nat), Value.int (0 : Int) (0 : Nat), Value.int (3 : Int) (0 : Nat), Value.ref (124 : Nat), Value.bool true, Value.int (276 : Int) (0 : Nat), Value.ref (125 : Nat), Value.none, Value.ref (126 : Nat), Value.ref (127 : Nat), Value.ref (128 : Nat), Value.int (479 : Int) (0 : Nat), Value.int (76 : Int) (0 : Nat), Value.str (Str.ofString "/claim/cut.py") (480 : Nat)] }) ::
  (nat_lit 130, { cls := Value.type "function", data := Data.func { name := Str.ofString "_b64_value", qualname := Str.ofString "_b64_value", params := a20, body := FuncBody.stmts b20, scope := s20, globals := (3 : Nat), closure := ([] : List (PySem.Str × Nat)), defaults := Value.none, kwdefaults := Value.none, pyModule := Value.str (Str.ofString "binascii") (429 : Nat), code := Value.ref (129 : Nat) } }) ::
  (nat_lit 131, { cls := Value.type "dict", data := Data.dict #[{ hash := PyData.keyHash P (Str.ofString "strict_mode"), key := Value.str (Str.ofString "strict_mode") (482 : Nat), val := Value.bool false }] (1 : Nat) }) ::
  (nat_lit 132, { cls := Value.type "tuple", data := Data.seq #[] }) ::
  (nat_lit 134, { cls := Value.type "tuple", data := Data.seq #[Value.str (Str.ofString "data") (486 : Nat), Value.str (Str.ofString "strict_mode") (487 : Nat), Value.str (Str.ofString "ascii_data") (488 : Nat), Value.str (Str.ofString "out") (489 : Nat), Value.str (Str.ofString "quad_pos") (490 : Nat), Value.str (Str.ofString "leftchar") (491 : Nat), Value.str (Str.ofString "pads") (492 : Nat), Value.str (Str.ofString "i") (493 : Nat), Value.str (Str.ofString "this_ch") (494 : Nat)] }) ::
  (nat_lit 135, { cls := Value.type "tuple", data := Data.seq #[] }) ::
  (nat_lit 137, { cls := Value.type "code", data := Data.fields #[Value.str (Str.ofString "a2b_base64") (483 : Nat), Value.str (Str.ofString "a2b_base64") (484 : Nat), Value.str (Str.ofString "/claim/cut.py") (485 : Nat), Value.int (88 : Int) (0 : Nat), Value.int (1 : Int) (0 : Nat), Value.int (1 : Int) (0 : Nat), Value.int (1 : Int) (0 : Nat), Value.int (3 : Int) (0 : Nat), Value.ref (132 : Nat), Value.bool true, Value.int (276 : Int) (0 : Nat), Value.ref (133 : Nat), Value.none, Value.ref (134 : Nat), Value.ref (135 : Nat), Value.ref (136 : Nat), Value.int (495 : Int) (0 : Nat), Value.int (88 : Int) (0 : Nat), Value.str (Str.ofString "/claim/cut.py") (496 : Nat)] }) ::
  (nat_lit 138, { cls := Value.type "function", data := Data.func { name := Str.ofString "a2b_base64", qualname := Str.ofString "a2b_base64", params := a21, body := FuncBody.stmts b21, scope := s21, globals := (3 : Nat), closure := ([] : List (PySem.Str × Nat)), defaults := Value.none, kwdefaults := Value.ref (131 : Nat), pyModule := Value.str (Str.ofString "binascii") (429 : Nat), code := Value.ref (137 : Nat) } }) ::
  (nat_lit 139, { cls := Value.type "dict", data := Data.dict #[{ hash := PyData.keyHash P (Str.ofString "newline"), key := Value.str (Str.ofString "newline") (498 : Nat), val := Value.bool true }] (1 : Nat) }) ::
  (nat_lit 140, { cls := Value.type "tuple", data := Data.seq #[] }) ::
  (nat_lit 142, { cls := Value.type "tuple", data := Data.seq #[Value.str (Str.ofString "data") (502 : Nat), Value.str (Str.ofString "newline") (503 : Nat), Value.str (Str.ofString "bin_data") (504 : Nat), Value.str (Str.ofString "out") (505 : Nat), Value.str (Str.ofString "leftbits") (506 : Nat), Value.str (Str.ofString "leftchar") (507 : Nat), Value.str (Str.ofString "b") (508 : Nat)] }) ::
  (nat_lit 143, { cls := Value.type "tuple", data := Data.seq #[] }) ::
  (nat_lit 145, { cls := Value.type "code", data := Data.fields #[Value.str (Str.ofString "b2a_base64") (499 : Nat), Value.str (Str.ofString "b2a_base64") (500 : Nat), Value.str (Str.ofString "/claim/cut.py") (501 : Nat), Value.int (142 : Int) (0 : Nat), Value.int (1 : Int) (0 : Nat), Value.int (1 : Int) (0 : Nat), Value.int (1 : Int) (0 : Nat), Value.int (3 : Int) (0 : Nat), Value.ref (140 : Nat), Value.bool true, Value.int (276 : Int) (0 : Nat), Value.ref (141 : Nat), Value.none, Value.ref (142 : Nat), Value.ref (143 : Nat), Value.ref (144 : Nat), Value.int (509 : Int) (0 : Nat), Value.int (142 : Int) (0 : Nat), Value.str (Str.ofString "/claim/cut.py") (510 : Nat)] }) ::
  (nat_lit 146, { cls := Value.type "function", data := Data.func { name := Str.ofString "b2a_base64", qualname := Str.ofString "b2a_base64", params := a22, body := FuncBody.stmts b22, scope := s22, globals := (3 : Nat), closure := ([] : List (PySem.Str × Nat)), defaults := Value.none, kwdefaults := Value.ref (139 : Nat), pyModule := Value.str (Str.ofString "binascii") (429 : Nat), code := Value.ref (145 : Nat) } }) ::
  (nat_lit 147, { cls := Value.type "object" }) ::
  (nat_lit 148, { cls := Value.type "tuple", data := Data.seq #[Value.ref (147 : Nat), Value.int (1 : Int) (513 : Nat)] }) ::
  (nat_lit 149, { cls := Value.type "tuple", data := Data.seq #[] }) ::
  (nat_lit 151, { cls := Value.type "tuple", data := Data.seq #[Value.str (Str.ofString "data") (517 : Nat), Value.str (Str.ofString "sep") (518 : Nat), Value.str (Str.ofString "bytes_per_sep") (519 : Nat), Value.str (Str.ofString "t") (520 : Nat)] }) ::
  (nat_lit 152, { cls := Value.type "tuple", data := Data.seq #[] }) ::
  (nat_lit 154, { cls := Value.type "code", data := Data.fields #[Value.str (Str.ofString "b2a_hex") (514 : Nat), Value.str (Str.ofString "b2a_hex") (515 : Nat), Value.str (Str.ofString "/claim/cut.py") (516 : Nat), Value.int (165 : Int) (0 : Nat), Value.int (3 : Int) (0 : Nat), Value.int (0 : Int) (0 : Nat), Value.int (0 : Int) (0 : Nat), Value.int (3 : Int) (0 : Nat), Value.ref (149 : Nat), Value.bool true, Value.int (276 : Int) (0 : Nat), Value.ref (150 : Nat), Value.none, Value.ref (151 : Nat), Value.ref (152 : Nat), Value.ref (153 : Nat), Value.int (521 : Int) (0 : Nat), Value.int (165 : Int) (0 : Nat), Value.str (Str.ofString "/claim/cut.py") (522 : Nat)] }) ::
  (nat_lit 155, { cls := Value.type "function", data := Data.func { name := Str.ofString "b2a_hex", qualname := Str.ofString "b2a_hex", params := a24, body := FuncBody.stmts b24, scope := s24, globals := (3 : Nat), closure := ([] : List (PySem.Str × Nat)), defaults := Value.ref (148 : Nat), kwdefaults := Value.none, pyModule := Value.str (Str.ofString "binascii") (429 : Nat), code := Value.ref (154 : Nat) } }) ::
  (nat_lit 156, { cls := Value.type "tuple", data := Data.seq #[] }) ::
  (nat_lit 158, { cls := Value.type "tuple", data := Data.seq #[Value.str (Str.ofString "c") (528 : Nat)] }) ::
  (nat_lit 159, { cls := Value.type "tuple", data := Data.seq #[] }) ::
  (nat_lit 161, { cls := Value.type "code", data := Data.fields #[Value.str (Str.ofString "_hex_value") (525 : Nat), Value.str (Str.ofString "_hex_value") (526 : Nat), Value.str (Str.ofString "/claim/cut.py") (527 : Nat), Value.int (182 : Int) (0 : Nat), Value.int (1 : Int) (0 : Nat), Value.int (0 : Int) (0 : Nat), Value.int (0 : Int) (0 : Nat), Value.int (3 : Int) (0 : Nat), Value.ref (156 : Nat), Value.bool true, Value.int (276 : Int) (0 : Nat), Value.ref (157 : Nat), Value.none, Value.ref (158 : Nat), Value.ref (159 : Nat), Value.ref (160 : Nat), Value.int (529 : Int) (0 : Nat), Value.int (182 : Int) (0 : Nat), Value.str (Str.ofString "/claim/cut.py") (530 : Nat)] }) ::
  (nat_lit 162, { cls := Value.type "function", data := Data.func { name := Str.ofString "_hex_value", qualname := Str.ofString "_hex_value", params := a26, body := FuncBody.stmts b26, scope := s26, globals := (3 : Nat), closure := ([] : List (PySem.Str × Nat)), defaults := Value.none, kwdefaults := Value.none, pyModule := Value.str (Str.ofString "binascii") (429 : Nat), code := Value.ref (161 : Nat) } }) ::
  (nat_lit 163, { cls := Value.type "tuple", data := Data.seq #[] }) ::
  (nat_lit 165, { cls := Value.type "tuple", data := Data.seq #[Value.str (Str.ofString "hexstr") (535 : Nat), Value.str (Str.ofString "argbuf") (536 : Nat), Value.str (Str.ofString "arglen") (537 : Nat), Value.str (Str.ofString "out") (538 : Nat), Value.str (Str.ofString "i") (539 : Nat), Value.str (Str.ofString "top") (540 : Nat), Value.str (Str.ofString "bot") (541 : Nat)] }) ::
  (nat_lit 166, { cls := Value.type "tuple", data := Data.seq #[] }) ::
  (nat_lit 168, { cls := Value.type "code", data := Data.fields #[Value.str (Str.ofString "a2b_hex") (532 : Nat), Value.str (Str.ofString "a2b_hex") (533 : Nat), Value.str (Str.ofString "/claim/cut.py") (534 : Nat), Value.int (190 : Int) (0 : Nat), Value.int (1 : Int) (0 : Nat), Value.int (1 : Int) (0 : Nat), Value.int (0 : Int) (0 : Nat), Value.int (3 : Int) (0 : Nat), Value.ref (163 : Nat), Value.bool true, Value.int (276 : Int) (0 : Nat), Value.ref (164 : Nat), Value.none, Value.ref (165 : Nat), Value.ref (166 : Nat), Value.ref (167 : Nat), Value.int (542 : Int) (0 : Nat), Value.int (190 : Int) (0 : Nat), Value.str (Str.ofString "/claim/cut.py") (543 : Nat)] }) ::
  (nat_lit 169, { cls := Value.type "function", data := Data.func { name := Str.ofString "a2b_hex", qualname := Str.ofString "a2b_hex", params := a27, body := FuncBody.stmts b27, scope := s27, globals := (3 : Nat), closure := ([] : List (PySem.Str × Nat)), defaults := Value.none, kwdefaults := Value.none, pyModule := Value.str (Str.ofString "binascii") (429 : Nat), code := Value.ref (168 : Nat) } }) ::
  (nat_lit 170, { cls := Value.type "tuple", data := Data.seq #[Value.none] }) ::
  (nat_lit 171, { cls := Value.type "tuple", data := Data.seq #[] }) ::
  (nat_lit 173, { cls := Value.type "tuple", data := Data.seq #[Value.str (Str.ofString "s") (551 : Nat), Value.str (Str.ofString "altchars") (552 : Nat), Value.str (Str.ofString "encoded") (553 : Nat)] }) ::
  (nat_lit 174, { cls := Value.type "tuple", data := Data.seq #[] }) ::
  (nat_lit 176, { cls := Value.type "code", data := Data.fields #[Value.str (Str.ofString "b64encode") (548 : Nat), Value.str (Str.ofString "b64encode") (549 : Nat), Value.str (Str.ofString "/claim/cut.py") (550 : Nat), Value.int (207 : Int) (0 : Nat), Value.int (2 : Int) (0 : Nat), Value.int (0 : Int) (0 : Nat), Value.int (0 : Int) (0 : Nat), Value.int (3 : Int) (0 : Nat), Value.ref (171 : Nat), Value.bool true, Value.int (276 : Int) (0 : Nat), Value.ref (172 : Nat), Value.none, Value.ref (173 : Nat), Value.ref (174 : Nat), Value.ref (175 : Nat), Value.int (554 : Int) (0 : Nat), Value.int (207 : Int) (0 : Nat), Value.str (Str.ofString "/claim/cut.py") (555 : Nat)] }) ::
  (nat_lit 177, { cls := Value.type "function", data := Data.func { name := Str.ofString "b64encode", qualname := Str.ofString "b64encode", params := a30, body := FuncBody.stmts b30, scope := s30, globals := (3 : Nat), closure := ([] : List (PySem.Str × Nat)), defaults := Value.ref (170 : Nat), kwdefaults := Value.none, pyModule := Value.str (Str.ofString "cpy313.base64") (546 : Nat), code := Value.ref (176 : Nat) } }) ::
  (nat_lit 178, { cls := Value.type "tuple", data := Data.seq #[Value.none, Value.bool false] }) ::
  (nat_lit 179, { cls := Value.type "tuple", data := Data.seq #[] }) ::
  (nat_lit 181, { cls := Value.type "tuple", data := Data.seq #[Value.str (Str.ofString "s") (560 : Nat), Value.str (Str.ofString "altchars") (561 : Nat), Value.str (Str.ofString "validate") (562 : Nat)] }) ::
  (nat_lit 182, { cls := Value.type "tuple", data := Data.seq #[] }) ::
  (nat_lit 184, { cls := Value.type "code", data := Data.fields #[Value.str (Str.ofString "b64decode") (557 : Nat), Value.str (Str.ofString "b64decode") (558 : Nat), Value.str (Str.ofString "/claim/cut.py") (559 : Nat), Value.int (213 : Int) (0 : Nat), Value.int (3 : Int) (0 : Nat), Value.int (0 : Int) (0 : Nat), Value.int (0 : Int) (0 : Nat), Value.int (3 : Int) (0 : Nat), Value.ref (179 : Nat), Value.bool true, Value.int (276 : Int) (0 : Nat), Value.ref (180 : Nat), Value.none, Value.ref (181 : Nat), Value.ref (182 : Nat), Value.ref (183 : Nat), Value.int (563 : Int) (0 : Nat), Value.int (213 : Int) (0 : Nat), Value.str (Str.ofString "/claim/cut.py") (564 : Nat)] }) ::
  (nat_lit 185, { cls := Value.type "function", data := Data.func { name := Str.ofString "b64decode", qualname := Str.ofString "b64decode", params := a31, body := FuncBody.stmts b31, scope := s31, globals := (3 : Nat), closure := ([] : List (PySem.Str × Nat)), defaults := Value.ref (178 : Nat), kwdefaults := Value.none, pyModule := Value.str (Str.ofString "cpy313.base64") (546 : Nat), code := Value.ref (184 : Nat) } }) ::
  (nat_lit 186, { cls := Value.type "tuple", data := Data.seq #[] }) ::
  (nat_lit 188, { cls := Value.type "tuple", data := Data.seq #[Value.str (Str.ofString "s") (569 : Nat)] }) ::
  (nat_lit 189, { cls := Value.type "tuple", data := Data.seq #[] }) ::
  (nat_lit 191, { cls := Value.type "code", data := Data.fields #[Value.str (Str.ofString "b16encode") (566 : Nat), Value.str (Str.ofString "b16encode") (567 : Nat), Value.str (Str.ofString "/claim/cut.py") (568 : Nat), Value.int (220 : Int) (0 : Nat), Value.int (1 : Int) (0 : Nat), Value.int (0 : Int) (0 : Nat), Value.int (0 : Int) (0 : Nat), Value.int (3 : Int) (0 : Nat), Value.ref (186 : Nat), Value.bool true, Value.int (276 : Int) (0 : Nat), Value.ref (187 : Nat), Value.none, Value.ref (188 : Nat), Value.ref (189 : Nat), Value.ref (190 : Nat), Value.int (570 : Int) (0 : Nat), Value.int (220 : Int) (0 : Nat), Value.str (Str.ofString "/claim/cut.py") (571 : Nat)] }) ::
  (nat_lit 192, { cls := Value.type "function", data := Data.func { name := Str.ofString "b16encode", qualname := Str.ofString "b16encode", params := a32, body := FuncBody.stmts b32, scope := s32, globals := (3 : Nat), closure := ([] : List (PySem.Str × Nat)), defaults := Value.none, kwdefaults := Value.none, pyModule := Value.str (Str.ofString "cpy313.base64") (546 : Nat), code := Value.ref (191 : Nat) } }) ::
  (nat_lit 193, { cls := Value.type "tuple", data := Data.seq #[Value.bool false] }) ::
  (nat_lit 194, { cls := Value.type "tuple", data := Data.seq #[] }) ::
  (nat_lit 196, { cls := Value.type "tuple", data := Data.seq #[Value.str (Str.ofString "s") (576 : Nat), Value.str (Str.ofString "casefold") (577 : Nat)] }) ::
  (nat_lit 197, { cls := Value.type "tuple", data := Data.seq #[] }) ::
  (nat_lit 199, { cls := Value.type "code", data := Data.fields #[Value.str (Str.ofString "b16decode") (573 : Nat), Value.str (Str.ofString "b16decode") (574 : Nat), Value.str (Str.ofString "/claim/cut.py") (575 : Nat), Value.int (222 : Int) (0 : Nat), Value.int (2 : Int) (0 : Nat), Value.int (0 : Int) (0 : Nat), Value.int (0 : Int) (0 : Nat), Value.int (3 : Int) (0 : Nat), Value.ref (194 : Nat), Value.bool true, Value.int (276 : Int) (0 : Nat), Value.ref (195 : Nat), Value.none, Value.ref (196 : Nat), Value.ref (197 : Nat), Value.ref (198 : Nat), Value.int (578 : Int) (0 : Nat), Value.int (222 : Int) (0 : Nat), Value.str (Str.ofString "/claim/cut.py") (579 : Nat)] }) ::
  (nat_lit 200, { cls := Value.type "function", data := Data.func { name := Str.ofString "b16decode", qualname := Str.ofString "b16decode", params := a33, body := FuncBody.stmts b33, scope := s33, globals := (3 : Nat), closure := ([] : List (PySem.Str × Nat)), defaults := Value.ref (193 : Nat), kwdefaults := Value.none, pyModule := Value.str (Str.ofString "cpy313.base64") (546 : Nat), code := Value.ref (199 : Nat) } }) ::
  (nat_lit 201, { cls := Value.type "tuple", data := Data.seq #[] }) ::
  (nat_lit 204, { cls := Value.type "code", data := Data.fields #[Value.str (Str.ofString "_law_sixes") (583 : Nat), Value.str (Str.ofString "_law_sixes") (584 : Nat), Value.str (Str.ofString "/claim/cut.py") (585 : Nat), Value.int (230 : Int) (0 : Nat), Value.int (2 : Int) (0 : Nat), Value.int (0 : Int) (0 : Nat), Value.int (0 : Int) (0 : Nat), Value.int (3 : Int) (0 : Nat), Value.ref (201 : Nat), Value.bool true, Value.int (276 : Int) (0 : Nat), Value.ref (202 : Nat), Value.none, Value.none, Value.none, Value.ref (203 : Nat), Value.int (586 : Int) (0 : Nat), Value.int (230 : Int) (0 : Nat), Value.str (Str.ofString "/claim/cut.py") (587 : Nat)] }) ::
  (nat_lit 205, { cls := Value.type "function", data := Data.func { name := Str.ofString "_law_sixes", qualname := Str.ofString "_law_sixes", params := a35, body := FuncBody.stmts b35, scope := s35, globals := (3 : Nat), closure := ([] : List (PySem.Str × Nat)), defaults := Value.none, kwdefaults := Value.none, pyModule := Value.str (Str.ofString "law_qh0008_01") (581 : Nat), code := Value.ref (204 : Nat) } }) ::
  (nat_lit 206, { cls := Value.type "tuple", data := Data.seq #[] }) ::
  (nat_lit 209, { cls := Value.type "code", data := Data.fields #[Value.str (Str.ofString "_law_figures") (589 : Nat), Value.str (Str.ofString "_law_figures") (590 : Nat), Value.str (Str.ofString "/claim/cut.py") (591 : Nat), Value.int (237 : Int) (0 : Nat), Value.int (1 : Int) (0 : Nat), Value.int (0 : Int) (0 : Nat), Value.int (0 : Int) (0 : Nat), Value.int (3 : Int) (0 : Nat), Value.ref (206 : Nat), Value.bool true, Value.int (276 : Int) (0 : Nat), Value.ref (207 : Nat), Value.none, Value.none, Value.none, Value.ref (208 : Nat), Value.int (592 : Int) (0 : Nat), Value.int (237 : Int) (0 : Nat), Value.str (Str.ofString "/claim/cut.py") (593 : Nat)] }) ::
  (nat_lit 210, { cls := Value.type "function", data := Data.func { name := Str.ofString "_law_figures", qualname := Str.ofString "_law_figures", params := a36, body := FuncBody.stmts b36, scope := s36, globals := (3 : Nat), closure := ([] : List (PySem.Str × Nat)), defaults := Value.none, kwdefaults := Value.none, pyModule := Value.str (Str.ofString "law_qh0008_01") (581 : Nat), code := Value.ref (209 : Nat) } }) ::
  (nat_lit 211, { cls := Value.type "tuple", data := Data.seq #[] }) ::
  (nat_lit 213, { cls := Value.type "tuple", data := Data.seq #[Value.str (Str.ofString "src") (598 : Nat), Value.str (Str.ofString "place") (599 : Nat), Value.str (Str.ofString "many") (600 : Nat), Value.str (Str.ofString "error") (601 : Nat)] }) ::
  (nat_lit 214, { cls := Value.type "tuple", data := Data.seq #[] }) ::
  (nat_lit 216, { cls := Value.type "code", data := Data.fields #[Value.str (Str.ofString "_law_told") (595 : Nat), Value.str (Str.ofString "_law_told") (596 : Nat), Value.str (Str.ofString "/claim/cut.py") (597 : Nat), Value.int (239 : Int) (0 : Nat), Value.int (3 : Int) (0 : Nat), Value.int (0 : Int) (0 : Nat), Value.int (0 : Int) (0 : Nat), Value.int (3 : Int) (0 : Nat), Value.ref (211 : Nat), Value.bool true, Value.int (276 : Int) (0 : Nat), Value.ref (212 : Nat), Value.none, Value.ref (213 : Nat), Value.ref (214 : Nat), Value.ref (215 : Nat), Value.int (602 : Int) (0 : Nat), Value.int (239 : Int) (0 : Nat), Value.str (Str.ofString "/claim/cut.py") (603 : Nat)] }) ::
  (nat_lit 217, { cls := Value.type "function", data := Data.func { name := Str.ofString "_law_told", qualname := Str.ofString "_law_told", params := a37, body := FuncBody.stmts b37, scope := s37, globals := (3 : Nat), closure := ([] : List (PySem.Str × Nat)), defaults := Value.none, kwdefaults := Value.none, pyModule := Value.str (Str.ofString "law_qh0008_01") (581 : Nat), code := Value.ref (216 : Nat) } }) ::
  (nat_lit 218, { cls := Value.type "tuple", data := Data.seq #[] }) ::
  (nat_lit 220, { cls := Value.type "tuple", data := Data.seq #[Value.str (Str.ofString "number") (608 : Nat), Value.str (Str.ofString "end") (609 : Nat), Value.str (Str.ofString "size") (610 : Nat), Value.str (Str.ofString "where") (611 : Nat)] }) ::
  (nat_lit 221, { cls := Value.type "tuple", data := Data.seq #[] }) ::
  (nat_lit 223, { cls := Value.type "code", data := Data.fields #[Value.str (Str.ofString "_law_due") (605 : Nat), Value.str (Str.ofString "_law_due") (606 : Nat), Value.str (Str.ofString "/claim/cut.py") (607 : Nat), Value.int (244 : Int) (0 : Nat), Value.int (3 : Int) (0 : Nat), Value.int (0 : Int) (0 : Nat), Value.int (0 : Int) (0 : Nat), Value.int (3 : Int) (0 : Nat), Value.ref (218 : Nat), Value.bool true, Value.int (276 : Int) (0 : Nat), Value.ref (219 : Nat), Value.none, Value.ref (220 : Nat), Value.ref (221 : Nat), Value.ref (222 : Nat), Value.int (612 : Int) (0 : Nat), Value.int (244 : Int) (0 : Nat), Value.str (Str.ofString "/claim/cut.py") (613 : Nat)] }) ::
  (nat_lit 224, { cls := Value.type "function", data := Data.func { name := Str.ofString "_law_due", qualname := Str.ofString "_law_due", params := a38, body := FuncBody.stmts b38, scope := s38, globals := (3 : Nat), closure := ([] : List (PySem.Str × Nat)), defaults := Value.none, kwdefaults := Value.none, pyModule := Value.str (Str.ofString "law_qh0008_01") (581 : Nat), code := Value.ref (223 : Nat) } }) ::
  (nat_lit 225, { cls := Value.type "tuple", data := Data.seq #[] }) ::
  (nat_lit 228, { cls := Value.type "code", data := Data.fields #[Value.str (Str.ofString "law") (615 : Nat), Value.str (Str.ofString "law") (616 : Nat), Value.str (Str.ofString "/claim/cut.py") (617 : Nat), Value.int (249 : Int) (0 : Nat), Value.int (1 : Int) (0 : Nat), Value.int (0 : Int) (0 : Nat), Value.int (0 : Int) (0 : Nat), Value.int (3 : Int) (0 : Nat), Value.ref (225 : Nat), Value.bool true, Value.int (276 : Int) (0 : Nat), Value.ref (226 : Nat), Value.none, Value.none, Value.none, Value.ref (227 : Nat), Value.int (618 : Int) (0 : Nat), Value.int (249 : Int) (0 : Nat), Value.str (Str.ofString "/claim/cut.py") (619 : Nat)] }) ::
  (nat_lit 229, { cls := Value.type "function", data := Data.func { name := Str.ofString "law", qualname := Str.ofString "law", params := a39, body := FuncBody.stmts b39, scope := s39, globals := (3 : Nat), closure := ([] : List (PySem.Str × Nat)), defaults := Value.none, kwdefaults := Value.none, pyModule := Value.str (Str.ofString "law_qh0008_01") (581 : Nat), code := Value.ref (228 : Nat) } }) :: [] : List (Nat × Obj))) _ _ _ rfl _ _ _ rfl _ _ _ rfl _ _ _ rfl _ _ _ rfl _ _ _ rfl _ _ _ rfl _ _ _ rfl _ _ _ rfl _ _ _ rfl _ _ _ rfl _ _ _ rfl _ _ _ rfl _ _ _ rfl _ _ _ rfl _ _ _ rfl _ _ _ rfl _ _ _ rfl _ _ _ rfl _ _ _ rfl _ _ _ rfl _ _ _ rfl _ _ _ rfl
end Mine
end
theorem Mine.rs_T1 : True := by (w_top off; k_with_none; trivial)

section
open PySem PySem.W PyProof.Rows
set_option Elab.async false
set_option maxRecDepth 100000
namespace Mine
/-- the real program -/
noncomputable def Pw : Program := PySem.Challenge.pw_qh0008_01
def looseN : List PySem.Str := [PySem.Str.ofString "hexdigits", PySem.Str.ofString "HEXDIGIT_CHARS", PySem.Str.ofString "_twin_re_1", PySem.Str.ofString "bytes_types", PySem.Str.ofString "a2b_base64", PySem.Str.ofString "b2a_base64", PySem.Str.ofString "_NO_SEP", PySem.Str.ofString "b2a_hex", PySem.Str.ofString "hexlify", PySem.Str.ofString "unhexlify", PySem.Str.ofString "b64encode", PySem.Str.ofString "b64decode", PySem.Str.ofString "b16decode"]
def readV : List (PySem.Str × WData) := [(PySem.Str.ofString "hexdigits", WData.str ⟨#[48, 49, 50, 51, 52, 53, 54, 55, 56, 57, 97, 98, 99, 100, 101, 102, 65, 66, 67, 68, 69, 70]⟩)]
def hexS : PySem.Str := ⟨#[48, 49, 50, 51, 52, 53, 54, 55, 56, 57, 97, 98, 99, 100, 101, 102, 65, 66, 67, 68, 69, 70]⟩
def kAddrs : List Addr := [2, 3, 32, 34, 35, 37, 38, 43, 50, 51, 52, 53, 56, 58, 59, 61, 62, 63, 65, 66, 68, 69, 70, 72, 73, 75, 76, 80, 81, 82, 83, 85, 86, 88, 89, 90, 97, 98, 99, 100, 103, 105, 106, 108, 109, 110, 112, 113, 115, 116, 117, 119, 120, 122, 123, 124, 126, 127, 129, 130, 131, 132, 134, 135, 137, 138, 139, 140, 142, 143, 145, 146, 147, 148, 149, 151, 152, 154, 155, 156, 158, 159, 161, 162, 163, 165, 166, 168, 169, 170, 171, 173, 174, 176, 177, 178, 179, 181, 182, 184, 185, 186, 188, 189, 191, 192, 193, 194, 196, 197, 199, 200, 201, 204, 205, 206, 209, 210, 211, 213, 214, 216, 217, 218, 220, 221, 223, 224, 225, 228, 229]
def callFz : Code := .builtin "frozenset.__new__" ⟨[.type "frozenset", .str hexS 294], []⟩
/-- the opening, the fence, and the top up to the making of the frozenset -/
noncomputable def stage1 (w : World) : Option (Shared × Shared × Thread) :=
  (fencedOpening treeTable Pw w 3000).bind fun s₀ => match runNI (denote treeTable) Pw w 94 s₀ (topStub Pw) with
    | .running s t => some (s₀, s, t)
    | .halted _ _ => none
def fzObj (es : Array (Int × Value)) (n : Nat) (t : SetTable) : Obj := ⟨.type "frozenset", none, .set es n t, #[]⟩
def tuObj : Obj := ⟨.type "tuple", none, .seq #[] 0, #[]⟩
def itEnd (i : Nat) : Obj := ⟨.type "str_ascii_iterator", none, .fields #[.none, .int i 0], #[]⟩
def stopObj (a : Addr) : Obj := ⟨.type "StopIteration", none, .fields #[.ref a, .none, .none, .none, .bool false, .none], #[]⟩
def heap2 (h : Heap) (o : Obj) : Heap := (((h.push o).push (itEnd 22)).push tuObj).push (stopObj 41)
/-- what is looked at behind the top -/
noncomputable def Xt (s : Shared) : Bool := xlAt hd.view_39 readV s && recOk (RowW.records PySem.Challenge.rw_qh0008_01.row.toRowW) s
def lowA : List Addr := [0, 1, 4, 5, 7, 8, 9, 10, 11, 12, 13, 14, 15, 16, 17, 18, 19, 20, 21, 22, 23, 24, 25, 26, 27]
noncomputable def obs (s₀ s : Shared) :=
  (staticsOk (importedModules Pw.main.body) s₀.heap s.heap && namesBound Pw s.heap && gensDone s && laidKept s₀.heap s.heap,
   openSeen hd.view_39 looseN (importedModules Pw.main.body) Xt true s, (kAddrs.map s.heap.get?, ([64] : List Addr).map s.heap.get?), s.heap.get? 39, lowA.map s.heap.get?, s.os)
noncomputable def stage3 (w : World) (es : Array (Int × Value)) (n : Nat) (t : SetTable) (c : Code) (p : Pos) :=
  (stage1 w).bind fun r => match runNI (denote treeTable) Pw w 2000 ⟨heap2 r.2.1.heap (fzObj es n t), r.2.1.gens, r.2.1.drawn, 342, r.2.1.os⟩ ⟨leafOf (.ok (.ret (.ref 39))), c, p, r.2.2.stack⟩ with
    | .halted o s => some (o, obs r.1 s)
    | .running _ _ => none
set_option maxHeartbeats 0 in
theorem stage1_ok (w : World) : (stage1 w).map (fun r => (r.2.2.cur, r.2.2.code, topHandled r.2.2.stack, (r.2.1.toks, r.2.1.heap.objs.size, r.2.1.gens), (r.1.heap.objs.size, r.1.heap.isNs mainGlobals, r.1.gens, r.1.heap.nsMap mainGlobals "__annotations__"))) =
    some (denote treeTable callFz, callFz, none, (298, 39, #[]), (28, true, #[], some (.ref 6))) := by kernel_rfl
set_option maxHeartbeats 0 in
theorem stage3_ok (w : World) (es : Array (Int × Value)) (n : Nat) (t : SetTable) (c : Code) (p : Pos) : stage3 w es n t c p =
    (stage1 w).map (fun r => (.done (.ret .none), true, openGood hd.view_39 looseN, ((hd.heap_39 w.params).map (fun p => some p.2), ([64] : List Addr).map fun _ => some (tabObj #[])), some (fzObj es n t), lowA.map r.1.heap.get?, r.1.os)) := by kernel_rfl
end Mine
end
theorem Mine.rs_H1 : True := by (w_top off; k_with_none; trivial)

section
open PySem PySem.W PyProof.Rows
set_option Elab.async false
set_option maxRecDepth 100000
namespace Mine
section heaps
variable (h : Heap) (x y : Obj) (f : Obj → Obj)
theorem upd_push1 : ((h.push x).push y).update h.objs.size f = (h.push (f x)).push y := by
  obtain ⟨objs, l⟩ := h
  simp only [Heap.push, Heap.update, Heap.mk.injEq, and_true]
  apply Array.ext
  · simp
  · intro i h1 h2
    simp only [Array.getElem_modify, Array.getElem_push, Array.size_push]
    simp at h1 h2
    by_cases e1 : i = objs.size
    · subst e1; simp
    · by_cases e2 : i < objs.size
      · have : ¬ objs.size = i := fun e => e1 e.symm
        simp [e2, this, Nat.lt_succ_of_lt e2]
      · have e3 : ¬ i < objs.size + 1 := by omega
        have : ¬ objs.size = i := fun e => e1 e.symm
        simp [e3, this]
theorem upd_push2 : ((h.push x).push y).update (h.objs.size + 1) f = (h.push x).push (f y) := by
  obtain ⟨objs, l⟩ := h
  simp only [Heap.push, Heap.update, Heap.mk.injEq, and_true]
  apply Array.ext
  · simp
  · intro i h1 h2
    simp only [Array.getElem_modify, Array.getElem_push, Array.size_push]
    simp at h1 h2
    by_cases e1 : i = objs.size + 1
    · subst e1; simp
    · have e3 : i < objs.size + 1 := by omega
      have : ¬ objs.size + 1 = i := fun e => e1 e.symm
      simp [e3, this]
theorem get_push1 (hx : x.isFreed = false) : ((h.push x).push y).get? h.objs.size = some x := Heap.get?_push_of_some _ (Heap.get?_push_size _ hx)
theorem get_push2 (hy : y.isFreed = false) : ((h.push x).push y).get? (h.objs.size + 1) = some y := by
  have := Heap.get?_push_size (h.push x) hy
  rwa [Heap.size_push] at this
end heaps

/-- what the set's table is to say: its elements are the texts that S has -/
structure FzOk (prog : Program) (w : World) (es : Array (Int × Value)) (t : SetTable) (S : PySem.Str → Prop) : Prop where
  elems : ElemsOf (strKind prog w) es.toList
  mem : ∀ k, S k ↔ ∃ e ∈ es.toList, (strKind prog w).is k e.2 = true
  fits : t.fits es.size = true

theorem fz_push {prog : Program} {w : World} {es es1 : Array (Int × Value)} {t t1 : SetTable} {S : PySem.Str → Prop} {k : PySem.Str} {u : Tok} (G : FzOk prog w es t S)
    (hp : List.Perm es1.toList (es.toList ++ [((strKind prog w).hash k, .str k u)])) (hf : t1.fits es1.size = true) : FzOk prog w es1 t1 (fun k' => S k' ∨ k' = k) where
  elems := (G.elems.push (strKind_is prog w k u) rfl).perm hp
  mem := fun k' => by
    rw [G.mem k']
    constructor
    · rintro (⟨e, he, q⟩ | rfl)
      · exact ⟨e, hp.mem_iff.mpr (List.mem_append_left _ he), q⟩
      · exact ⟨_, hp.mem_iff.mpr (List.mem_append_right _ (List.mem_singleton.mpr rfl)), strKind_is prog w k' u⟩
    · rintro ⟨e, he, q⟩
      rcases List.mem_append.mp (hp.mem_iff.mp he) with he | he
      · exact .inl ⟨e, he, q⟩
      · rw [List.mem_singleton] at he; subst he
        exact .inr ((strKind prog w).inj _ k' k q (strKind_is prog w k u))
  fits := hf
theorem fz_perm {prog : Program} {w : World} {es es1 : Array (Int × Value)} {t t1 : SetTable} {S : PySem.Str → Prop} (G : FzOk prog w es t S) (hp : List.Perm es1.toList es.toList) (hf : t1.fits es1.size = true) : FzOk prog w es1 t1 S where
  elems := G.elems.perm hp
  mem := fun k' => (G.mem k').trans ⟨fun ⟨e, he, q⟩ => ⟨e, hp.mem_iff.mpr he, q⟩, fun ⟨e, he, q⟩ => ⟨e, hp.mem_iff.mp he, q⟩⟩
  fits := hf
theorem fz_plain {prog : Program} {w : World} {es : Array (Int × Value)} {t : SetTable} {S : PySem.Str → Prop} (G : FzOk prog w es t S) : FzOk prog w es { t with plain := false } S := ⟨G.elems, G.mem, SetTable.fits_plain_off G.fits⟩
theorem fz_congr {prog : Program} {w : World} {es : Array (Int × Value)} {t : SetTable} {S S' : PySem.Str → Prop} (G : FzOk prog w es t S) (e : ∀ k, S k ↔ S' k) : FzOk prog w es t S' := ⟨G.elems, fun k => (e k).symm.trans (G.mem k), G.fits⟩

theorem perm_size {α : Type} {a b : Array α} {l : List α} (h : List.Perm a.toList (b.toList ++ l)) : a.size = b.size + l.length := by
  rw [← Array.length_toList, h.length_eq, List.length_append, Array.length_toList]

section add
variable {prog : Program} {w : World} {A : Around} {E : Value → Shared → Prop}

theorem fz_store {h₀ : Heap} {y : Obj} {g : Array GenState} {d : Drawn} {tk : Nat} {os : OsState} {es es' : Array (Int × Value)} {n : Nat} {t t' : SetTable} {Q : Unit → Shared → Prop} (hz : es'.size ≤ sizeLine)
    (h : Q () ⟨(h₀.push (fzObj es' (n + 1) t')).push y, g, d, tk, os⟩) :
    wpAny (model prog w) A (storeSet h₀.objs.size es' t') Q E ⟨(h₀.push (fzObj es n t)).push y, g, d, tk, os⟩ := by
  refine wpAny_storeSet_of (o := fzObj es n t) (get_push1 _ _ _ rfl) rfl ?_ hz
  show Q () ⟨Heap.update ((h₀.push (fzObj es n t)).push y) h₀.objs.size (Obj.putSet es' t'), g, d, tk, os⟩
  rw [upd_push1]
  exact h

/-- one text more in the set -/
theorem fz_add {h₀ : Heap} {y : Obj} {g : Array GenState} {d : Drawn} {tk : Nat} {os : OsState} {es : Array (Int × Value)} {n : Nat} {t : SetTable} {S : PySem.Str → Prop} {k : PySem.Str} {u : Tok} {Q : Bool → Shared → Prop}
    (G : FzOk prog w es t S) (hb : es.size + 1 < scanBound)
    (h : ∀ b es' n' t', es'.size ≤ es.size + 1 → FzOk prog w es' t' (fun k' => S k' ∨ k' = k) → Q b ⟨(h₀.push (fzObj es' n' t')).push y, g, d, tk, os⟩) :
    wpAny (model prog w) A (setAddHashed h₀.objs.size (.str k u) ((strKind prog w).hash k)) Q E ⟨(h₀.push (fzObj es n t)).push y, g, d, tk, os⟩ := by
  have ho : (⟨(h₀.push (fzObj es n t)).push y, g, d, tk, os⟩ : Shared).heap.get? h₀.objs.size = some (fzObj es n t) := get_push1 _ _ _ rfl
  have hkey := strKind_is prog w k u
  unfold setAddHashed setAddHashedIn
  refine wpAny_holding (wpAny_bind (wpAny_setState_of ho rfl G.fits ?_))
  dsimp only
  rw [byScan_of (knd := strKind prog w) (x := .str k u) rfl (by omega) G.elems]
  simp only [↓reduceIte]
  unfold setAddByScan
  refine wpAny_bind ?_
  refine wpAny_bind (wpAny_rule ?_)
  refine wpAny_bind (wpAny_setScan_of hkey ho rfl G.fits G.elems ?_)
  have hgw : ∀ (b : Bool) {s₁ : Shared} {Q' : Unit → Shared → Prop}, Q' () s₁ → wpAny (model prog w) A (match b with | true => rule "set.scan.the-table-gave-way" | false => pure ()) Q' E s₁ :=
    fun b s₁ Q' hq => by cases b <;> first | exact wpAny_pure hq | exact wpAny_rule hq
  cases hr : List.findIdx? (fun e => (strKind prog w).is k e.2) es.toList with
  | some j =>
    dsimp only
    obtain ⟨hj, hpj, _⟩ := List.findIdx?_eq_some_iff_getElem.mp hr
    refine wpAny_pure (wpAny_pure (h _ _ _ _ (Nat.le_succ _) (fz_congr G fun k' => ⟨.inl, fun q => q.elim id ?_⟩)))
    rintro rfl
    exact (G.mem k').mpr ⟨_, List.getElem_mem hj, hpj⟩
  | none =>
    dsimp only
    have hperm := layNew_perm t es ((strKind prog w).hash k) (.str k u)
    have hfits := layNew_fits t es ((strKind prog w).hash k) (.str k u)
    generalize hL : layNew t es ((strKind prog w).hash k) (.str k u) = L at hperm hfits ⊢
    obtain ⟨es1, t1, wasDummy, gave⟩ := L
    dsimp only at hperm hfits ⊢
    rw [Array.toList_push] at hperm
    have G1 := fz_push G hperm hfits
    have hsz := perm_size hperm
    have hz1 : es1.size ≤ sizeLine := fits_of_scanBound (by rw [hsz]; exact hb)
    refine wpAny_bind (hgw _ ?_)
    have tail : ∀ (t2 : SetTable), FzOk prog w es1 t2 (fun k' => S k' ∨ k' = k) → wpAny (model prog w) A (do
        storeSet h₀.objs.size es1 t2
        if (!wasDummy && t2.tooFull) = true then do
            (match (relayAll t2 es1 (SetTable.grown es1.size)).2.2 with | true => rule "set.scan.the-table-gave-way" | false => pure ())
            storeSet h₀.objs.size (relayAll t2 es1 (SetTable.grown es1.size)).1 (relayAll t2 es1 (SetTable.grown es1.size)).2.1
            pure (some true)
          else pure (some true)) (fun r s' => ∃ es' n' t', r = some true ∧ es'.size ≤ es.size + 1 ∧ FzOk prog w es' t' (fun k' => S k' ∨ k' = k) ∧ s' = ⟨(h₀.push (fzObj es' n' t')).push y, g, d, tk, os⟩) E ⟨(h₀.push (fzObj es n t)).push y, g, d, tk, os⟩ := by
      intro t2 G2
      refine wpAny_bind (fz_store hz1 ?_)
      split
      · have hp := relayAll_perm t2 es1 (SetTable.grown es1.size)
        have hfr := relayAll_fits t2 es1 (SetTable.grown es1.size)
        generalize relayAll t2 es1 (SetTable.grown es1.size) = Rl at hp hfr ⊢
        obtain ⟨es2, t3, gave2⟩ := Rl
        dsimp only at hp hfr ⊢
        have hsz2 : es2.size = es1.size := by rw [← Array.length_toList, hp.length_eq, Array.length_toList]
        refine wpAny_bind (hgw _ ?_)
        refine wpAny_bind (fz_store (by rw [hsz2]; exact hz1) (wpAny_pure ⟨_, _, _, rfl, ?_, fz_perm G2 hp hfr, rfl⟩))
        rw [hsz2, hsz]; exact Nat.le_refl _
      · exact wpAny_pure ⟨_, _, _, rfl, by rw [hsz]; exact Nat.le_refl _, G2, rfl⟩
    split
    · refine wpAny_bind ?_
      rw [hashByValue_scannable 8 (x := .str k u) rfl]
      refine wpAny_pure ?_
      refine wpAny_mono (tail _ ?_) ?_ (fun _ _ q => q)
      · split
        · exact G1
        · exact fz_plain G1
      · rintro _ _ ⟨es', n', t', rfl, hs', G', rfl⟩
        exact wpAny_pure (h _ _ _ _ hs' G')
    · refine wpAny_bind (wpAny_pure ?_)
      simp only [↓reduceIte]
      refine wpAny_mono (tail _ G1) ?_ (fun _ _ q => q)
      rintro _ _ ⟨es', n', t', rfl, hs', G', rfl⟩
      exact wpAny_pure (h _ _ _ _ hs' G')
end add

section loop
variable {prog : Program} {w : World} {A : Around} {E : Value → Shared → Prop}
def itAt (x : PySem.Str) (t : Tok) (i : Nat) : Obj := ⟨.type "str_ascii_iterator", none, .fields #[.str x t, .int i 0], #[]⟩
theorem it_next {h₀ : Heap} {z : Obj} {g : Array GenState} {d : Drawn} {tk : Nat} {os : OsState} {x : PySem.Str} {t : Tok} {i c : Nat} {Q : Option Value → Shared → Prop} (hx : x.cps[i]? = some c)
    (hQ : Q (some (.str ⟨#[c]⟩ tk)) ⟨(h₀.push z).push (itAt x t (i + 1)), g, d, tk + 1, os⟩) :
    wpAny (model prog w) A (pyNext (.ref (h₀.objs.size + 1))) Q E ⟨(h₀.push z).push (itAt x t i), g, d, tk, os⟩ := by
  have ho : (⟨(h₀.push z).push (itAt x t i), g, d, tk, os⟩ : Shared).heap.get? (h₀.objs.size + 1) = some (itAt x t i) := get_push2 _ _ _ rfl
  have hit : (⟨(h₀.push z).push (itAt x t i), g, d, tk, os⟩ : Shared).heap.IsStrIter (h₀.objs.size + 1) "str_ascii_iterator" x t i := ⟨_, ho, rfl, rfl⟩
  unfold pyNext
  refine wpAny_bind (wpAny_attempt (wpAny_callSpecial?_slot (name := Str.ofString "__next__") hit.typeIs F.slot_str_ascii_iterator_next
    (wpAny_call_entry F.slot_str_ascii_iterator_next hit.typeIs F.entry_str_ascii_iterator_next ?_ (F.args_str_ascii_iterator_next_1 _))))
  show wpAny _ _ (field (.ref _) 0 >>= _) _ _ _
  refine wpAny_bind (wpAny_field ho rfl (x := .str x t) rfl ?_)
  show wpAny _ _ (field (.ref _) 1 >>= _) _ _ _
  refine wpAny_bind (wpAny_field ho rfl (x := .int i 0) rfl ?_)
  simp only [Int.toNat_natCast, hx]
  refine wpAny_bind (wpAny_setField ho rfl (by simp) (wpAny_bind (wpAny_mkStr (wpAny_pure ⟨_, rfl, wpAny_pure ?_⟩) (by show 1 ≤ sizeLine; decide))))
  dsimp only
  rw [upd_push2]
  exact hQ
theorem it_stop {h₀ : Heap} {z : Obj} {g : Array GenState} {d : Drawn} {tk : Nat} {os : OsState} {x : PySem.Str} {t : Tok} {i : Nat} {Q : Option Value → Shared → Prop} (hh : A.handled = none) (hx : x.cps[i]? = none)
    (hQ : Q none ⟨(((h₀.push z).push (itEnd i)).push tuObj).push (stopObj (h₀.objs.size + 2)), g, d, tk, os⟩) :
    wpAny (model prog w) A (pyNext (.ref (h₀.objs.size + 1))) Q E ⟨(h₀.push z).push (itAt x t i), g, d, tk, os⟩ := by
  have ho : (⟨(h₀.push z).push (itAt x t i), g, d, tk, os⟩ : Shared).heap.get? (h₀.objs.size + 1) = some (itAt x t i) := get_push2 _ _ _ rfl
  have hit : (⟨(h₀.push z).push (itAt x t i), g, d, tk, os⟩ : Shared).heap.IsStrIter (h₀.objs.size + 1) "str_ascii_iterator" x t i := ⟨_, ho, rfl, rfl⟩
  unfold pyNext
  refine wpAny_bind (wpAny_attempt (wpAny_callSpecial?_slot (name := Str.ofString "__next__") hit.typeIs F.slot_str_ascii_iterator_next
    (wpAny_call_entry F.slot_str_ascii_iterator_next hit.typeIs F.entry_str_ascii_iterator_next ?_ (F.args_str_ascii_iterator_next_1 _))))
  show wpAny _ _ (field (.ref _) 0 >>= _) _ _ _
  refine wpAny_bind (wpAny_field ho rfl (x := .str x t) rfl ?_)
  show wpAny _ _ (field (.ref _) 1 >>= _) _ _ _
  refine wpAny_bind (wpAny_field ho rfl (x := .int i 0) rfl ?_)
  simp only [Int.toNat_natCast, hx]
  refine wpAny_bind (wpAny_rule (wpAny_bind (wpAny_setField ho rfl (by simp) (wpAny_bind (wpAny_letGo ?_)))))
  dsimp only
  rw [upd_push2]
  show wpAny _ _ (newExc (.type "StopIteration") [] >>= _) _ _ _
  refine wpAny_bind ?_
  simp only [newExc, newTuple]
  refine wpAny_bind (wpAny_newObj_type ?_ (by size_fits))
  refine wpAny_bind (m := firstArgMember _ _) (wpAny_of_eq (a := Value.none) (by first | rfl | (simp only [firstArgMember]; rfl)) ?_)
  refine wpAny_newObj_type ?_ (by size_fits)
  simp only [raiseNew]
  refine wpAny_bind (wpAny_handled ?_)
  rw [show A.in1.handled = none from hh]
  refine wpAny_bind (wpAny_pure (wpAny_throw ?_))
  refine wpAny_bind (wpAny_isInstance (T := "StopIteration") (b := true) ⟨_, Heap.get?_push_size _ rfl, rfl⟩ isSubtype_stop ?_)
  refine wpAny_pure ?_
  have e : ((h₀.push z).push (itEnd i)).objs.size = h₀.objs.size + 2 := by simp
  rw [show Obj.mapFields (·.setIfInBounds 0 Value.none) (itAt x t i) = itEnd i from rfl, e]
  exact hQ
/-- the first i signs of x, each a text -/
def firstSigns (x : PySem.Str) (i : Nat) (k : PySem.Str) : Prop := ∃ j c, j < i ∧ x.cps[j]? = some c ∧ k = ⟨#[c]⟩
theorem firstSigns_succ {x : PySem.Str} {i c : Nat} (hx : x.cps[i]? = some c) (k : PySem.Str) : (firstSigns x i k ∨ k = ⟨#[c]⟩) ↔ firstSigns x (i + 1) k := by
  constructor
  · rintro (⟨j, c', h1, h2, h3⟩ | rfl)
    · exact ⟨j, c', Nat.lt_succ_of_lt h1, h2, h3⟩
    · exact ⟨i, c, Nat.lt_succ_self _, hx, rfl⟩
  · rintro ⟨j, c', h1, h2, h3⟩
    rcases Nat.lt_succ_iff_lt_or_eq.mp h1 with h | rfl
    · exact .inl ⟨j, c', h, h2, h3⟩
    · rw [hx] at h2; cases h2; exact .inr h3
theorem fz_loop {R : Result → Shared → Prop} {h₀ : Heap} {g : Array GenState} {d : Drawn} {os : OsState} {x : PySem.Str} {t₀ : Tok} (hh : A.handled = none) (hb : x.cps.size + 1 < scanBound) :
    ∀ (k i : Nat) (tk : Nat) (es : Array (Int × Value)) (n : Nat) (t : SetTable), x.cps.size - i = k → i ≤ x.cps.size → es.size ≤ i → FzOk prog w es t (firstSigns x i) →
      (∀ es' n' t', es'.size ≤ x.cps.size → FzOk prog w es' t' (firstSigns x x.cps.size) → R (.ok (.ret .none)) ⟨(((h₀.push (fzObj es' n' t')).push (itEnd x.cps.size)).push tuObj).push (stopObj (h₀.objs.size + 2)), g, d, tk + 2 * k, os⟩) →
      codeAny (model prog w) A (.builtin "set.update.loop" ⟨[.ref h₀.objs.size, .ref (h₀.objs.size + 1)], []⟩) R ⟨(h₀.push (fzObj es n t)).push (itAt x t₀ i), g, d, tk, os⟩ := by
  intro k
  induction k with
  | zero =>
    intro i tk es n t hk hi he G hR
    obtain rfl : i = x.cps.size := by omega
    refine codeAny_builtin PyProof.Rows.F.entry_set_update_loop ?_
    rw [Around.under_plainId PyProof.Rows.F.plain_set_update_loop _]
    show wpAny _ A.in1 (pyNext (.ref (h₀.objs.size + 1)) >>= _) _ _ _
    refine wpAny_bind (it_stop hh (by simp) ?_)
    exact wpAny_pure (hR _ _ _ he G)
  | succ k ih =>
    intro i tk es n t hk hi he G hR
    have hlt : i < x.cps.size := by omega
    obtain ⟨c, hc⟩ : ∃ c, x.cps[i]? = some c := ⟨_, Array.getElem?_eq_getElem hlt⟩
    refine codeAny_builtin PyProof.Rows.F.entry_set_update_loop ?_
    rw [Around.under_plainId PyProof.Rows.F.plain_set_update_loop _]
    show wpAny _ A.in1 (pyNext (.ref (h₀.objs.size + 1)) >>= _) _ _ _
    refine wpAny_bind (it_next hc ?_)
    show wpAny _ A.in1 (holding [.str ⟨#[c]⟩ tk] (setAdd h₀.objs.size (.str ⟨#[c]⟩ tk)) >>= _) _ _ _
    refine wpAny_bind (wpAny_holding ?_)
    unfold setAdd
    refine wpAny_holding (wpAny_bind ((strKind prog w).pyHash (strKind_is prog w ⟨#[c]⟩ tk) ?_))
    refine fz_add G (by omega) fun b es' n' t' hs' G' => ?_
    refine wpAny_pure ⟨plainId_quiet PyProof.Rows.F.plain_set_update_loop _, ?_⟩
    refine ih (i + 1) (tk + 1 + 1) es' n' t' (by omega) hlt (by omega) (fz_congr G' (firstSigns_succ hc)) fun es2 n2 t2 hs2 G2 => ?_
    have := hR es2 n2 t2 hs2 G2
    rw [show tk + 1 + 1 + 2 * k = tk + 2 * (k + 1) by omega]
    exact this
end loop
end Mine
end
theorem Mine.rs_H3 : True := by (w_top off; k_with_none; trivial)

section
open PySem PySem.W PyProof.Rows
set_option Elab.async false
set_option maxRecDepth 100000
namespace Mine
theorem fzNew_eq (x : PySem.Str) (t : Tok) : Builtin.«frozenset.__new__» ⟨[.type "frozenset", .str x t], []⟩ = (Builtin.Frozenset.newFrom "frozenset.__new__" (.type "frozenset") (.str x t) >>= fun v => ret v) := by kernel_rfl
theorem fzUpd_eq (a : Addr) (x : PySem.Str) (t : Tok) : Builtin.Frozenset.updateFrom "frozenset.__new__" a (.str x t) = (pyIter (.str x t) >>= fun it => runValue (.builtin "set.update.loop" ⟨[.ref a, it], []⟩) >>= fun _ => pure ()) := by kernel_rfl
theorem fz_entry : entryFor table "frozenset.__new__" = some Builtin.«frozenset.__new__» := by first | exact entryFor_of_fast (by kernel_rfl) | exact entryFor_of_tree (by kernel_rfl)
theorem fz_plainId : plainId "frozenset.__new__" = true := by decide +kernel
theorem fz_new {prog : Program} {w : World} {A : Around} {R : Result → Shared → Prop} {h₀ : Heap} {g : Array GenState} {d : Drawn} {os : OsState} {tk : Nat} {x : PySem.Str} {t₀ : Tok} (hh : A.handled = none) (hb : x.cps.size + 1 < scanBound) (ha : x.cps.all (· < 128) = true)
    (hR : ∀ es' n' t', es'.size ≤ x.cps.size → FzOk prog w es' t' (firstSigns x x.cps.size) → R (.ok (.ret (.ref h₀.objs.size))) ⟨(((h₀.push (fzObj es' n' t')).push (itEnd x.cps.size)).push tuObj).push (stopObj (h₀.objs.size + 2)), g, d, tk + 2 * x.cps.size, os⟩) :
    codeAny (model prog w) A (.builtin "frozenset.__new__" ⟨[.type "frozenset", .str x t₀], []⟩) R ⟨h₀, g, d, tk, os⟩ := by
  refine codeAny_builtin fz_entry ?_
  rw [Around.under_plainId fz_plainId _, fzNew_eq]
  unfold Builtin.Frozenset.newFrom newSet setsByText
  refine wpAny_bind (wpAny_bind (wpAny_bind (wpAny_bind (wpAny_askSetting (wpAny_pure ?_)))))
  dsimp only
  simp only [newObj]
  refine wpAny_bind (wpAny_alloc (wpAny_pure ?_))
  dsimp only [Builtin.Frozenset.addrOf]
  refine wpAny_bind (wpAny_pure (wpAny_bind (wpAny_holding ?_)))
  rw [fzUpd_eq]
  refine wpAny_bind (wpAny_pyIter_ascii ha ?_)
  refine wpAny_bind (wpAny_runValue ?_)
  dsimp only
  rw [Heap.size_push]
  have G0 : ∀ led : Bool, FzOk prog w #[] (SetTable.fresh 0 0 led) (firstSigns x 0) := fun led =>
    ⟨fun e he => by simp at he, fun k => ⟨fun ⟨j, c, h, _⟩ => absurd h (Nat.not_lt_zero _), fun ⟨e, he, _⟩ => by simp at he⟩, rfl⟩
  refine fz_loop (A := A.in1) (h₀ := h₀) (x := x) (t₀ := t₀) (g := g) (d := d) (os := os) hh hb x.cps.size 0 tk #[] 0 _ (by omega) (Nat.zero_le _) (Nat.le_refl _) (G0 _) fun es' n' t' hs G => ?_
  exact wpAny_pure (wpAny_pure (wpAny_pure (hR _ _ _ hs G)))
end Mine
end
theorem Mine.rs_H4 : True := by (w_top off; k_with_none; trivial)

section
open PySem PySem.W PyProof.Rows
set_option Elab.async false
set_option maxRecDepth 100000
namespace Mine
section runs
variable {den : Code → Sem Fin} {p : Program} {w : World}
theorem runNI_add {m : Nat} {s' : Shared} {t' : Thread} : ∀ {n : Nat} {s : Shared} {t : Thread}, runNI den p w n s t = .running s' t' → runNI den p w (n + m) s t = runNI den p w m s' t'
  | 0, s, t, h => by cases h; rw [Nat.zero_add]
  | n + 1, s, t, h => by
    rw [show n + 1 + m = n + m + 1 by omega]
    simp only [runNI] at h ⊢
    cases hs : stepI den p w s t with
    | go s₁ t₁ => rw [hs] at h; exact runNI_add h
    | halt o s₁ => rw [hs] at h; cases h
theorem last_running : ∀ {n : Nat} {s : Shared} {t : Thread} {o : Outcome} {s'' : Shared}, runN den p w n s t = .halted o s'' → ∃ m s' t', runN den p w m s t = .running s' t' ∧ step den p w s' t' = .halt o s''
  | 0, s, t, o, s'', h => by cases h
  | n + 1, s, t, o, s'', h => by
    simp only [runN] at h
    cases hs : step den p w s t with
    | go s₁ t₁ =>
      rw [hs] at h
      obtain ⟨m, s', t', h1, h2⟩ := last_running h
      exact ⟨m + 1, s', t', by simp only [runN, hs]; exact h1, h2⟩
    | halt o₁ s₁ => rw [hs] at h; cases h; exact ⟨0, s, t, rfl, hs⟩
theorem through_of_halt {s s'' : Shared} {t : Thread} {f : Flow} (h : step den p w s t = .halt (.done f) s'') : through t = true ∧ s'' = s := by
  obtain ⟨heap, gens, drawn, toks, os⟩ := s
  obtain ⟨cur, code, pos, stack⟩ := t
  cases cur with
  | pure x =>
    cases x with
    | done g =>
      cases stack with
      | nil =>
        dsimp only [step, finish] at h
        split at h
        · cases h
        · cases h; exact ⟨rfl, rfl⟩
      | cons F r => cases F <;> cases h
    | again c => cases h
  | raise e =>
    cases stack with
    | nil => dsimp only [step, finish] at h; split at h <;> cases h
    | cons F r => cases F <;> cases h
  | finish e => dsimp only [step] at h; split at h <;> cases h
  | load a q k => dsimp only [step] at h; split at h <;> cases h
  | update a q f k => dsimp only [step] at h; split at h <;> cases h
  | choose a b k => dsimp only [step] at h; split at h <;> cases h
  | genState a k => dsimp only [step] at h; split at h <;> cases h
  | resume a r l k => dsimp only [step] at h; (repeat' split at h) <;> cases h
  | «yield» v g l k => dsimp only [step] at h; split at h <;> cases h
  | _ => cases h

/-- an ideal run to its end is a run of the machine, one step ahead of the end it is through -/
theorem ran_of_ideal {n : Nat} {s s₃ : Shared} {t : Thread} {f : Flow} (hz : s.asleep) (h : runNI den p w n s t = .halted (.done f) s₃) (hg : s₃.gens = #[]) :
    (∃ m t', schedN den p w m (.single s t) = .running (.single s₃ t') ∧ through t' = true) ∧ s₃.heap.life = s.heap.life := by
  obtain ⟨s'', hr, hf, hc⟩ := runNI_real den p w h rfl
  obtain rfl : s'' = s₃ := Shared.eq_of_forget_eq hf hg
  have hs : Sequential den p w s t := ⟨hc, fun k s₂ hk => by
    have a := runN_mono den p w n k s t _ s'' hr
    have b := runN_mono den p w k n s t _ s₂ hk
    rw [Nat.add_comm, b] at a
    cases a⟩
  obtain ⟨m, s', t', h1, h2⟩ := last_running hr
  obtain ⟨h3, rfl⟩ := through_of_halt h2
  refine ⟨⟨m, t', ?_, h3⟩, runN_life _ _ _ hr⟩
  rw [schedN_eq_runN den p w s t hz hs m, h1]
  rfl
end runs
end Mine
end
theorem Mine.rs_H5 : True := by (w_top off; k_with_none; trivial)

section
open PySem PySem.W PyProof.Rows
set_option Elab.async false
set_option maxRecDepth 100000
namespace Mine
theorem kAddrs_are (P : Params) : kAddrs = (hd.heap_39 P).map (·.1) := by kernel_rfl
noncomputable def kH : Hook := kmHook hd.heap_39 kAddrs kAddrs_are [64]
/-- the frozenset stands at 39 -/
def FzAt (w : World) (h : Heap) : Prop := ∃ es n t, es.size ≤ 22 ∧ FzOk PySem.Challenge.rw_qh0008_01.row.prog w es t (firstSigns hexS 22) ∧ h.get? 39 = some (fzObj es n t)
noncomputable def RealY (w : World) (h : Heap) : Prop := kH.says w h ∧ FzAt w h
theorem realY_keeps (w : World) (h h' : Heap) (y : RealY w h) (k : ∀ b o, h.get? b = some o → h'.get? b = some o) : RealY w h' :=
  ⟨kH.keeps w h h' y.1 k, let ⟨es, n, t, z, a, b⟩ := y.2; ⟨es, n, t, z, a, k _ _ b⟩⟩
theorem low_mem {b : Nat} (h : b < 28) (h2 : b ≠ 2) (h3 : b ≠ 3) (h6 : b ≠ 6) : b ∈ lowA := by
  have : ∀ b : Fin 28, b.val ≠ 2 → b.val ≠ 3 → b.val ≠ 6 → b.val ∈ lowA := by decide
  exact this ⟨b, h⟩ h2 h3 h6
theorem hd_chains : chainsOk hd.view_39 = true := by decide +kernel

set_option maxHeartbeats 1000000 in
theorem top_behind (w : World) : (∃ s, AfterRun (opening Pw) w s) ∧ ∀ s, AfterRun (opening Pw) w s → ∃ s₀, fenceModules? Pw s = some s₀ ∧ s₀.gens = #[] ∧ ∃ s₁, TopRan Pw w s₀ s₁ ∧ s₁.asleep ∧ s₁.gens = #[] ∧ s₁.heap.isNs mainGlobals = true ∧
      Ground hd.view_39 looseN [] (XL hd.view_39 readV) w s₁ (s₁.heap.nsMap mainGlobals) (s₁.heap.nsMap builtinsNs) s₁.heap ∧ RealY w s₁.heap := by
  obtain ⟨⟨s₀, s1, t1⟩, hst, hv⟩ := Option.map_eq_some_iff.mp (stage1_ok w)
  have hst' := hst
  unfold stage1 at hst
  obtain ⟨s₀', h2, h3⟩ := Option.bind_eq_some_iff.mp hst
  have hrun1 : s₀' = s₀ ∧ runNI (denote treeTable) Pw w 94 s₀' (topStub Pw) = .running s1 t1 := by
    cases hr : runNI (denote treeTable) Pw w 94 s₀' (topStub Pw) with
    | running s t => rw [hr] at h3; cases h3; exact ⟨rfl, rfl⟩
    | halted o s => rw [hr] at h3; cases h3
  obtain ⟨rfl, hrun1⟩ := hrun1
  obtain ⟨sI, h4, h5⟩ := Option.bind_eq_some_iff.mp h2
  rw [← table_eq_tree] at h4
  have AI := AfterImport.of_importEnds h4
  refine ⟨⟨sI, AI⟩, fun s' hs' => ?_⟩
  obtain rfl : s' = sI := AfterImport.unique hs' AI
  have z : s₀'.asleep := Shared.asleep_of_life (fence_lifeW h5) AI.life
  simp only [Prod.mk.injEq] at hv
  obtain ⟨v1, v2, v3, ⟨v4, v5, v6⟩, v7, v8, v9, v10⟩ := hv
  -- the making of the set
  obtain ⟨cur, code, pos, stack⟩ := t1
  obtain ⟨heap1, gens1, drawn1, toks1, os1⟩ := s1
  dsimp only at v1 v2 v3 v4 v5 v6
  subst v1 v2 v4 v6
  let A : Around := { handled := none, depth := frameCount (stack.map Frame.where_), frames := none, guards := none, units := unitsOf (stack.map Frame.where_) }
  have key : wpCode (model Pw w) (Ctx.of callFz stack) (fun r s' => r = .ok (.ret (.ref 39)) ∧ ∃ es n t, es.size ≤ 22 ∧ FzOk Pw w es t (firstSigns hexS 22) ∧ s' = ⟨heap2 heap1 (fzObj es n t), #[], drawn1, 342, os1⟩) pos ⟨heap1, #[], drawn1, 298, os1⟩ := by
    refine fz_new (prog := Pw) (w := w) (A := A) (h₀ := heap1) (g := #[]) (d := drawn1) (os := os1) (tk := 298) (x := hexS) (t₀ := 294) rfl (by decide) (by decide +kernel) (fun es n t hs G => ⟨by rw [v5], es, n, t, hs, G, by rw [v5]; rfl⟩) (Ctx.of callFz stack) pos rfl ?_
    · exact ⟨v3, Nat.le_refl _, fun l hl => (nomatch hl), fun l hl => (nomatch hl), Nat.le_refl _⟩
  rw [wpCode_iff_wp] at key
  obtain ⟨n2, r, s2, c', p', hrun2, rfl, es, n, t, hsz, G, rfl⟩ := wp_runN key
  -- the rest of the top
  have h6 := stage3_ok w es n t c' p'
  unfold stage3 at h6
  rw [hst'] at h6
  dsimp only [Option.bind_some, Option.map_some] at h6
  obtain ⟨s₃, hrun3, hobs⟩ : ∃ s₃, runNI (denote treeTable) Pw w 2000 ⟨heap2 heap1 (fzObj es n t), #[], drawn1, 342, os1⟩ ⟨leafOf (.ok (.ret (.ref 39))), c', p', stack⟩ = .halted (.done (.ret .none)) s₃ ∧
      obs s₀' s₃ = (true, openGood hd.view_39 looseN, ((hd.heap_39 w.params).map (fun p => some p.2), ([64] : List Addr).map fun _ => some (tabObj #[])), some (fzObj es n t), lowA.map s₀'.heap.get?, s₀'.os) := by
    cases hr : runNI (denote treeTable) Pw w 2000 ⟨heap2 heap1 (fzObj es n t), #[], drawn1, 342, os1⟩ ⟨leafOf (.ok (.ret (.ref 39))), c', p', stack⟩ with
    | running s t => rw [hr] at h6; cases h6
    | halted o s =>
      rw [hr] at h6
      have h7 := Option.some.inj h6
      have h8 : o = .done (.ret .none) := congrArg Prod.fst h7
      exact ⟨s, by rw [h8], congrArg Prod.snd h7⟩
  rw [← table_eq_tree] at hrun1 hrun3
  have hall : runNI (denote table) Pw w (94 + (n2 + 2000)) s₀' (topStub Pw) = .halted (.done (.ret .none)) s₃ := by
    rw [runNI_add hrun1]
    have : runNI (denote table) Pw w n2 ⟨heap1, #[], drawn1, 298, os1⟩ ⟨denote table callFz, callFz, pos, stack⟩ = .running ⟨heap2 heap1 (fzObj es n t), #[], drawn1, 342, os1⟩ ⟨leafOf (.ok (.ret (.ref 39))), c', p', stack⟩ := hrun2
    exact (runNI_add this).trans hrun3
  unfold obs at hobs
  simp only [Prod.mk.injEq] at hobs
  obtain ⟨o1, o2, ⟨o3, o3'⟩, o4, o5, o6⟩ := hobs
  obtain ⟨Gr, g0, hg, g2, g3, g4, g5⟩ := ground_of_open (w := w) (XP := XL hd.view_39 readV) (fun s e => xl_of s (Bool.and_eq_true_iff.mp e).1) hd_chains o2
  have hgens : s₃.gens = #[] := Array.eq_empty_of_size_eq_zero (beq_iff_eq.mp g0)
  obtain ⟨hran, hlife⟩ := ran_of_ideal z hall hgens
  obtain ⟨o1, hlk⟩ := Bool.and_eq_true_iff.mp o1
  obtain ⟨o1, hgd⟩ := Bool.and_eq_true_iff.mp o1
  obtain ⟨hso, hnb⟩ := Bool.and_eq_true_iff.mp o1
  refine ⟨s₀', h5, v9, s₃, ⟨hran, hlife, Shared.rest_eq o6, fun b o hb hn => ?_, g2, statics_of_ok hso, g3, g4, g5, gens_of_done hgd, names_of_bound hnb, laid_of_kept hlk⟩, Shared.asleep_of_life hlife z, hgens, hg, Gr, kH.of w s₃ (by rw [show kH.obs s₃ = (kAddrs.map s₃.heap.get?, ([64] : List Addr).map s₃.heap.get?) from rfl, o3, o3']; rfl), es, n, t, hsz, G, o4⟩
  have hlt : b < 28 := v7 ▸ Heap.lt_size hb
  have hm : b ∈ lowA := low_mem hlt (fun q => hn (.inr (.inl q))) (fun q => hn (.inl q)) fun q => hn (.inr (.inr (by rw [Pin.globalOf_eq v8, q]; exact v10)))
  rw [← hb]
  exact List.map_inj_left.mp o5 b hm
end Mine
end
theorem Mine.rs_H6 : True := by (w_top off; k_with_none; trivial)

section
open PySem PySem.W PyProof.Rows
set_option Elab.async false
set_option maxRecDepth 100000
namespace Mine
/-- from the walk to the row, over a top whose end is known up to the set's table -/
theorem real_holds {d : DefRec} {kwd : List (PySem.Str × Expr)} (hdef : defOf hd.view_39 PySem.Challenge.rw_qh0008_01.row.name = some (d, kwd)) (hp : PySem.Challenge.rw_qh0008_01.row.prog.theDef PySem.Challenge.rw_qh0008_01.row.name = some (d.params, d.body, d.scope))
    (hk : kwWritten? d.params.kwonlyargs d.params.kw_defaults = some kwd) (said : PySem.Challenge.rw_qh0008_01.row.wellSaid = true) (ok : (opensWell PySem.Challenge.rw_qh0008_01.row.prog && frees PySem.Challenge.rw_qh0008_01.row.toRowW) = true) (hb : PySem.Challenge.rw_qh0008_01.row.prog.bare)
    (hw : PySem.Challenge.rw_qh0008_01.row.toRowW.promised) (walk : WalkO hd.view_39 looseN (XL hd.view_39 readV) RealY PySem.Challenge.rw_qh0008_01.row.toRowW d kwd fun f vs => PySem.call f vs) : PySem.Challenge.rw_qh0008_01.row.Holds := by
  obtain ⟨o1, k5⟩ := Bool.and_eq_true_iff.mp ok
  obtain ⟨hsame, hu, ha, hap, hm⟩ := frees_parts k5
  refine ⟨said, hw, ⟨hb, o1, rfl⟩, hw.witness, fun w => ⟨(top_behind w).1, fun s' hs' => ?_⟩⟩
  obtain ⟨s₀, hf, hg0, s, hT, hz, hgens, hg, G, y⟩ := (top_behind w).2 s' hs'
  refine ⟨s₀, hf, hg0, s, hT, fun n hn => ?_, fun x hx => (nomatch hx), fun x hx => (nomatch hx), ?_⟩
  · obtain rfl : n = PySem.Challenge.rw_qh0008_01.row.name := List.mem_singleton.mp hn
    exact pinned_of_view hg G hdef hp hk
  refine ClaimW.callFrom_of_specG (c := PySem.Challenge.rw_qh0008_01.row.toRowW.claim) (tree := fun vs => do match ← nsGet mainNs PySem.Challenge.rw_qh0008_01.row.name with
      | some f => do ret (← PySem.call f vs)
      | none => unsupported "claim.caller:no-such-global") hz hgens fun args hpre hlay ord hord => ?_
  obtain ⟨⟨vs, s₁⟩, hlaid⟩ := Option.isSome_iff_exists.mp (layAllW_isSome (R := []) (P := w.params) (ord := ord) G.has args PySem.Challenge.rw_qh0008_01.row.args s (pre_splitW hpre).1)
  have keeps := layAllW_keeps _ _ _ hlaid
  have hal := layAllW_rest _ _ _ hlaid
  obtain ⟨as, hrd, hin, hold⟩ := reads_layAllW hord _ _ _ hlaid hlay s₁.heap (fun _ _ e => e)
  have L : Laid [] w s s₁ args vs as := ⟨⟨ord, hord, hlaid⟩, hrd, hin, hold, keeps, hal.1.trans hgens, hal.2.2.1⟩
  have G₁ := G.keeps XL.keeps keeps
  obtain ⟨a, o, pm, cd, doc, dV, kV, h1, h2, h3, h4, h5⟩ := G₁.fn hdef
  have h := walk w s s₁ _ _ G₁ (realY_keeps _ _ _ y keeps) a o pm cd doc dV kV h2 h3 h4 h5 (defOf_name hdef ▸ h1) L.gens args vs as hpre hlay L.reads L.well (L.low G.low)
  have hi := ident_freeW hu ha hap
  refine ⟨vs, s₁, hlaid, wpAny_bind (wpAny_nsGet G₁.T.g ?_)⟩
  rw [h1]
  refine wpAny_bind (wpAny_mono h (fun v s' g => ?_) fun e s' g => ?_)
  · have z := g.laid (c := PySem.Challenge.rw_qh0008_01.row.toRowW.claim) hsame rfl hi L
    exact wpAny_pure ⟨_, rfl, z.1, z.2.1, z.2.2, fun q => (nomatch q)⟩
  · have z := g.laid (c := PySem.Challenge.rw_qh0008_01.row.toRowW.claim) hsame rfl hi L
    exact ⟨z.1, z.2.1, z.2.2, fun q => (nomatch q)⟩
end Mine
end
theorem Mine.rs_H7 : True := by (w_top off; k_with_none; trivial)

section
open PySem PySem.W PyProof.Rows
set_option Elab.async false
set_option maxRecDepth 100000
namespace Mine
theorem foldl_bytes (l : List Nat) (acc : Array UInt8) : l.foldl (fun acc y => acc ++ [y.toUInt8].toArray) acc = acc ++ (l.map (·.toUInt8)).toArray := by
  induction l generalizing acc with
  | nil => simp
  | cons a l ih => rw [List.foldl_cons, ih]; simp
theorem forIn_once {S : Type} {f : Nat → S → Sem (ForInStep S)} {init s1 : S} (h1 : ∀ x, f x init = pure (.yield s1)) (h2 : ∀ x, f x s1 = pure (.done s1)) (a : Nat) (l : List Nat) : forIn (a :: l) init f = pure s1 := by
  rw [List.forIn_cons, h1]
  show forIn l s1 f = _
  cases l with
  | nil => rfl
  | cons b l => rw [List.forIn_cons, h2]; rfl
theorem none_bad {l : List Nat} (hx : ∀ y ∈ l, y < 128) : Array.findIdx? Builtin._codecs.asciiCodec.bad l.toArray = none := by
  rw [List.findIdx?_toArray, List.findIdx?_eq_none_iff]
  intro y hy
  exact decide_eq_false (Nat.not_le.mpr (hx y hy))
theorem r_encNarrow {c : Nat} {cs : List Nat} {v : Value} {id : String} (hx : ∀ y ∈ c :: cs, y < 128) (hl : cs.length < 1000) : Builtin._codecs.encodeNarrow id Builtin._codecs.asciiCodec none v ⟨(c :: cs).toArray⟩ = pure ((c :: cs).map (·.toUInt8)).toArray := by
  unfold Builtin._codecs.encodeNarrow
  simp only [Std.Legacy.Range.forIn_eq_forIn_range']
  have hr : List.range' 0 [:({ cps := (c :: cs).toArray } : PySem.Str).length].size = 0 :: List.range' 1 cs.length := by
    show List.range' 0 ((cs.length + 1 - 0 + 1 - 1) / 1) = _
    rw [show (cs.length + 1 - 0 + 1 - 1) / 1 = cs.length + 1 by omega]
    rfl
  rw [hr, forIn_once (s1 := (cs.length + 1, ((c :: cs).map (·.toUInt8)).toArray, {}))]
  · rfl
  · intro x
    dsimp only
    rw [if_neg (by show ¬ 0 > sizeLine; rw [sizeLine_eq]; omega)]
    have hc : Builtin._codecs.asciiCodec.bad c = false := decide_eq_false (Nat.not_le.mpr (hx c (.head _)))
    show (if (!Builtin._codecs.asciiCodec.bad c) = true then _ else _) = _
    rw [if_pos (by rw [hc]; rfl)]
    have e1 : (c :: cs).toArray.extract 0 = (c :: cs).toArray := by simp
    rw [e1, none_bad hx]
    have e2 : Array.foldl (fun acc y => acc ++ (Builtin._codecs.asciiCodec.bytesOf y).toArray) #[] ((c :: cs).toArray.extract 0 (none.getD (c :: cs).toArray.size)) = ((c :: cs).map (·.toUInt8)).toArray := by
      have : (c :: cs).toArray.extract 0 (none.getD (c :: cs).toArray.size) = (c :: cs).toArray := by simp
      rw [this, List.foldl_toArray]
      rw [show (fun (acc : Array UInt8) y => acc ++ (Builtin._codecs.asciiCodec.bytesOf y).toArray) = fun acc y => acc ++ [y.toUInt8].toArray from rfl, foldl_bytes]
      simp
    rw [e2]
    rw [show 0 + (none : Option Nat).getD (c :: cs).toArray.size = cs.length + 1 by simp]
  · intro x
    dsimp only
    rw [if_neg (by show ¬ ((c :: cs).map (·.toUInt8)).toArray.size > sizeLine; rw [sizeLine_eq]; simp; omega)]
    have e : (c :: cs).toArray[cs.length + 1]? = none := by simp
    rw [e]
end Mine
end
theorem Mine.rs_R1a : True := by (w_top off; k_with_none; trivial)

section
open PySem PySem.W PyProof.Rows
set_option Elab.async false
set_option maxRecDepth 100000
namespace Mine
namespace Fa
theorem slot_upper : Slot "bytes" "upper" "bytes.upper" :=
  .of (owner := "bytes") (n := "upper") (by rw [typeLookup_type, builtinLookup_eq_fast]; kernel_rfl) (by decide +kernel) (by decide +kernel) (by decide +kernel)
    (by first | exact .inl (by decide +kernel) | exact .inr (by decide +kernel)) (by rw [isSubtype_type]; kernel_rfl)
theorem type_upper : typeOf (.builtin "bytes.upper") = pure (.type "method_descriptor") := by show builtinType _ = _; rw [builtinType_eq_fast]; kernel_rfl
theorem entry_upper : entryFor table "bytes.upper" = some Builtin.«bytes.upper» := entryFor_of_tree (by kernel_rfl)
theorem args_upper (a : Value) : argsOk "bytes.upper" ⟨[a], []⟩ := by
  unfold argsOk; rw [signature?_of (id := "bytes.upper") (n := ['r', 'e', 'p', 'p', 'u']) (o := ['s', 'e', 't', 'y', 'b']) (by kernel_rfl) PySem.W.FB.owner_bytes]; kernel_rfl
theorem upper_eq (b : Array UInt8) (t : Tok) : Builtin.«bytes.upper» ⟨[.bytes b t], []⟩ = (mkBytes (b.toList.map Builtin.Bytes.toUpper).toArray >>= fun v => ret v) := by kernel_rfl
theorem hex_eq (b : Array UInt8) (t : Tok) : Builtin.«bytes.hex» ⟨[.bytes b t], []⟩ = retStr ⟨b.toList.zipIdx.foldl (fun (out : Array Nat) (c, _) => (out.push (Builtin.Bytes.hexDigit (c.toNat / 16))).push (Builtin.Bytes.hexDigit (c.toNat % 16))) #[]⟩ := by kernel_rfl
-- re.Pattern
theorem plain_re : PlainAttrs "re.Pattern" :=
  ⟨⟨"object.__getattribute__", by rw [typeLookup_type, builtinLookup_eq_fast]; kernel_rfl, by decide +kernel⟩, by rw [typeLookup_type, builtinLookup_eq_fast]; kernel_rfl⟩
theorem slot_search : Slot "re.Pattern" "search" "re.Pattern.search" :=
  .of (owner := "re.Pattern") (n := "search") (by rw [typeLookup_type, builtinLookup_eq_fast]; kernel_rfl) (by decide +kernel) (by decide +kernel) (by decide +kernel)
    (by first | exact .inl (by decide +kernel) | exact .inr (by decide +kernel)) (by rw [isSubtype_type]; kernel_rfl)
theorem type_search : typeOf (.builtin "re.Pattern.search") = pure (.type "method_descriptor") := by show builtinType _ = _; rw [builtinType_eq_fast]; kernel_rfl
theorem entry_search : entryFor table "re.Pattern.search" = some Builtin.«re.Pattern.search» := entryFor_of_tree (by kernel_rfl)
theorem args_search (a b : Value) : argsOk "re.Pattern.search" ⟨[a, b], []⟩ := by unfold argsOk; kernel_rfl
-- frozenset
theorem plain_fz : PlainAttrs "frozenset" :=
  ⟨⟨"object.__getattribute__", by rw [typeLookup_type, builtinLookup_eq_fast]; kernel_rfl, by decide +kernel⟩, by rw [typeLookup_type, builtinLookup_eq_fast]; kernel_rfl⟩
theorem slot_issup : Slot "frozenset" "issuperset" "frozenset.issuperset" :=
  .of (owner := "frozenset") (n := "issuperset") (by rw [typeLookup_type, builtinLookup_eq_fast]; kernel_rfl) (by decide +kernel) (by decide +kernel) (by decide +kernel)
    (by first | exact .inl (by decide +kernel) | exact .inr (by decide +kernel)) (by rw [isSubtype_type]; kernel_rfl)
theorem type_issup : typeOf (.builtin "frozenset.issuperset") = pure (.type "method_descriptor") := by show builtinType _ = _; rw [builtinType_eq_fast]; kernel_rfl
theorem entry_issup : entryFor table "frozenset.issuperset" = some Builtin.«frozenset.issuperset» := entryFor_of_tree (by kernel_rfl)
theorem entry_issupL : entryFor table "frozenset.issuperset.loop" = some Builtin.«frozenset.issuperset.loop» := entryFor_of_tree (by kernel_rfl)
theorem args_issup (a b : Value) : argsOk "frozenset.issuperset" ⟨[a, b], []⟩ := by unfold argsOk; kernel_rfl
theorem plain_issupL : plainId "frozenset.issuperset.loop" = true := by decide +kernel
theorem issup_eq (a : Addr) (x : PySem.Str) (t : Tok) : Builtin.«frozenset.issuperset» ⟨[.ref a, .str x t], []⟩ = (pyIter (.str x t) >>= fun it => again (.builtin "frozenset.issuperset.loop" ⟨[.ref a, it], []⟩)) := by kernel_rfl
end Fa
end Mine
end
theorem Mine.rs_R2 : True := by (w_top off; k_with_none; trivial)

section
open PySem PySem.W PyProof.Rows
set_option Elab.async false
set_option maxRecDepth 100000
namespace Mine
section
variable {prog : Program} {w : World} {A : Around} {E : Value → Shared → Prop} {s : Shared} {Q : Value → Shared → Prop}
theorem r_type_bytes {b : Array UInt8} {t : Tok} (h : Q (.type "bytes") s) : wpAny (model prog w) A (call (.type "type") [.bytes b t]) Q E s :=
  call_type_of (Tx := "bytes") rfl (by decide +kernel) h
theorem r_gm_encode {M : Model} {x : PySem.Str} {t : Tok} {pl : Sem Bool} {Q : Value × List Value → Shared → Prop} (h : Q (.builtin "str.encode", [.str x t]) s) : wpAny M A (getMethod (.str x t) (PySem.Str.ofString "encode") pl) Q E s := by
  with_reducible exact GM.of (.str x t) (typeIs_str _ _ _) F.slot_str_encode F.type_str_encode GM.noRef h
theorem r_encode_eq {x : PySem.Str} {t t2 : Tok} : Builtin.«str.encode» ⟨[.str x t, .str (PySem.Str.ofString "ascii") t2], []⟩ = ((Builtin._codecs.encodeNarrow "str.encode" Builtin._codecs.asciiCodec none (.str x t) x >>= fun b => mkBytes b) >>= fun v => ret v) := by kernel_rfl
theorem r_encode {c : Nat} {cs : List Nat} {t t2 : Tok} (hx : ∀ y ∈ c :: cs, y < 128) (hl : cs.length < 1000) (h : Q (.bytes ((c :: cs).map (·.toUInt8)).toArray s.toks) { s with toks := s.toks + 1 }) :
    wpAny (model prog w) A (call (.builtin "str.encode") [.str ⟨(c :: cs).toArray⟩ t, .str (PySem.Str.ofString "ascii") t2]) Q E s := by
  refine wpAny_call_entry F.slot_str_encode (typeIs_str _ _ _) F.entry_str_encode ?_ (F.args_str_encode_2 _ _)
  rw [r_encode_eq, r_encNarrow hx hl]
  refine wpAny_bind (wpAny_bind (wpAny_pure (wpAny_mkBytes (wpAny_pure ⟨_, rfl, h⟩) ?_)))
  rw [sizeLine_eq]; simp; omega
theorem r_noRefB {b : Array UInt8} {t : Tok} : ∀ a, Value.bytes b t = .ref a → ∃ o, s.heap.get? a = some o ∧ o.dict = none := fun _ e => nomatch e
theorem r_gm_upper {M : Model} {b : Array UInt8} {t : Tok} {pl : Sem Bool} {Q : Value × List Value → Shared → Prop} (h : Q (.builtin "bytes.upper", [.bytes b t]) s) : wpAny M A (getMethod (.bytes b t) (PySem.Str.ofString "upper") pl) Q E s := by
  with_reducible exact getMethod_builtin (typeIs_bytes _ _ _) FB.plainAttrs_bytes Fa.slot_upper Fa.type_upper r_noRefB h
theorem r_upper {b : Array UInt8} {t : Tok} (hl : b.size ≤ 1000) (h : Q (.bytes (b.toList.map Builtin.Bytes.toUpper).toArray s.toks) { s with toks := s.toks + 1 }) :
    wpAny (model prog w) A (call (.builtin "bytes.upper") [.bytes b t]) Q E s := by
  refine wpAny_call_entry Fa.slot_upper (typeIs_bytes _ _ _) Fa.entry_upper ?_ (Fa.args_upper _)
  rw [Fa.upper_eq]
  refine wpAny_bind (wpAny_mkBytes (wpAny_pure ⟨_, rfl, h⟩) ?_)
  rw [sizeLine_eq]; simp; omega
theorem r_gm_hex {M : Model} {b : Array UInt8} {t : Tok} {pl : Sem Bool} {Q : Value × List Value → Shared → Prop} (h : Q (.builtin "bytes.hex", [.bytes b t]) s) : wpAny M A (getMethod (.bytes b t) (PySem.Str.ofString "hex") pl) Q E s := by
  with_reducible exact getMethod_builtin (typeIs_bytes _ _ _) FB.plainAttrs_bytes FB.slot_bytes_hex FB.type_bytes_hex r_noRefB h
/-- the small figures of the octets -/
def hexOf (l : List UInt8) : List Nat := l.flatMap fun c => [Builtin.Bytes.hexDigit (c.toNat / 16), Builtin.Bytes.hexDigit (c.toNat % 16)]
theorem hexOf_fold (l : List UInt8) : ∀ (n : Nat) (acc : Array Nat), (l.zipIdx n).foldl (fun (out : Array Nat) (c, _) => (out.push (Builtin.Bytes.hexDigit (c.toNat / 16))).push (Builtin.Bytes.hexDigit (c.toNat % 16))) acc = acc ++ (hexOf l).toArray := by
  induction l with
  | nil => intro n acc; simp [hexOf]
  | cons a l ih => intro n acc; rw [List.zipIdx_cons, List.foldl_cons, ih]; simp [hexOf]
theorem hexOf_length (l : List UInt8) : (hexOf l).length = 2 * l.length := by
  induction l with
  | nil => rfl
  | cons a l ih => rw [show hexOf (a :: l) = [_, _] ++ hexOf l from rfl, List.length_append, ih]; simp; omega
theorem r_hex {b : Array UInt8} {t : Tok} (hl : b.size ≤ 1000) (h : Q (.str ⟨(hexOf b.toList).toArray⟩ s.toks) { s with toks := s.toks + 1 }) :
    wpAny (model prog w) A (call (.builtin "bytes.hex") [.bytes b t]) Q E s := by
  refine wpAny_call_entry FB.slot_bytes_hex (typeIs_bytes _ _ _) FB.entry_bytes_hex ?_ (FB.args_bytes_hex_1 _)
  rw [Fa.hex_eq, hexOf_fold]
  unfold retStr
  refine wpAny_bind (wpAny_mkStr (wpAny_pure ⟨_, rfl, ?_⟩) ?_)
  · simpa using h
  · show (#[] ++ (hexOf b.toList).toArray).size ≤ sizeLine
    rw [sizeLine_eq]; simp [hexOf_length]; omega
end
end Mine
end
theorem Mine.rs_R3 : True := by (w_top off; k_with_none; trivial)

section
open PySem PySem.W PyProof.Rows
set_option Elab.async false
set_option maxRecDepth 100000
namespace Mine
def sreCode : Array Nat := #[14, 12, 4, 1, 1, 21, 22, 48, 57, 22, 65, 70, 0, 13, 9, 21, 22, 48, 57, 22, 65, 70, 0, 1]
def patObj (tp tf : Tok) : Obj := ⟨.type "re.Pattern", none, .fields #[.bytes #[91, 94, 48, 45, 57, 65, 45, 70, 93] tp, .int 0 tf, .int 0 0, .none, .none, .ref 80, .int 1 0], #[]⟩
def codeTup (n : Nat) : Obj := ⟨.type "tuple", none, .seq #[.int 14 0, .int 12 0, .int 4 0, .int 1 0, .int 1 0, .int 21 0, .int 22 0, .int 48 0, .int 57 0, .int 22 0, .int 65 0, .int 70 0, .int 0 0, .int 13 0, .int 9 0, .int 21 0, .int 22 0, .int 48 0, .int 57 0, .int 22 0, .int 65 0, .int 70 0, .int 0 0, .int 1 0] n, #[]⟩
theorem target_peek (S : Setting) (b : Array UInt8) (t tp tf : Tok) (n : Nat) : peek [(81, patObj tp tf), (80, codeTup n)] S (Builtin.Re.reTarget "re.Pattern.search" "search" ⟨[.ref 81, .bytes b t], []⟩) =
    some { pattern := .ref 81, string := .bytes b t, code := sreCode, text := b.map (·.toNat), kind := 1, groups := 0, pos := 0, lim := min 9223372036854775807 (b.map (·.toNat)).size } := by kernel_rfl
/-- a figure or a great letter of the hex alphabet -/
def GreatHex (c : Nat) : Prop := (48 ≤ c ∧ c ≤ 57) ∨ (65 ≤ c ∧ c ≤ 70)
theorem inSet_eq (c : Nat) (seen : Sre.Seen) : Sre.inSet sreCode c 24 5 true seen =
    if (decide (48 ≤ c) && decide (c ≤ 57)) = true then .ok (false, (seen.add 21).add 22) else if (decide (65 ≤ c) && decide (c ≤ 70)) = true then .ok (false, ((seen.add 21).add 22).add 22) else Sre.inSet sreCode c 21 12 false (((seen.add 21).add 22).add 22) := by kernel_rfl
theorem inSet_no {c : Nat} (hc : GreatHex c) (seen : Sre.Seen) : ∃ seen', Sre.inSet sreCode c 24 5 true seen = .ok (false, seen') := by
  rw [inSet_eq]
  by_cases h : 48 ≤ c ∧ c ≤ 57
  · exact ⟨_, if_pos (by simp [h])⟩
  · refine ⟨((seen.add 21).add 22).add 22, ?_⟩
    rw [if_neg (by simp; omega), if_pos]
    rcases hc with hc | hc
    · exact absurd hc h
    · simp [hc]
theorem admitted_no {m : Sre.M} (hcode : m.code = sreCode) (hall : ∀ i, i < m.lim → GreatHex (m.text.getD i 0)) : ∀ (fuel s : Nat) (seen : Sre.Seen), ∃ seen', Sre.M.admitted m fuel s seen = .ok (none, seen')
  | 0, s, seen => ⟨seen, rfl⟩
  | fuel + 1, s, seen => by
    unfold Sre.M.admitted
    by_cases h : s ≥ m.lim
    · rw [if_pos h]; exact ⟨_, rfl⟩
    · rw [if_neg h, hcode]
      obtain ⟨seen', e⟩ := inSet_no (hall s (Nat.lt_of_not_le h)) seen
      rw [show sreCode.size = 24 from rfl, e]
      exact admitted_no hcode hall fuel (s + 1) seen'
theorem search_no {text : Array Nat} {lim : Nat} (h0 : 0 < lim) (hall : ∀ i, i < lim → GreatHex (text.getD i 0)) :
    ∃ m : Sre.M, Sre.forSearch sreCode text 0 0 lim false = m ∧ m.answer = some false ∧ m.frames = [] ∧ m.outcome = none := by
  refine ⟨_, rfl, ?_⟩
  have e : ∃ m1 m0 : Sre.M, Sre.forSearch sreCode text 0 0 lim false = (if (decide (0 > lim) || decide (lim - 0 < 1)) = true then m1 else Sre.M.attemptFrom m0 0 true) ∧ m0.code = sreCode ∧ m0.text = text ∧ m0.lim = lim ∧ m0.frames = [] ∧ m0.outcome = none := by
    refine ⟨_, _, rfl, rfl, rfl, rfl, rfl, rfl⟩
  obtain ⟨m1, m0, e, a1, a2, a3, a4, a5⟩ := e
  rw [e, if_neg (by simp; omega)]
  unfold Sre.M.attemptFrom
  rw [if_neg (by unfold Sre.M.hasFirstSet; rw [a1]; decide)]
  obtain ⟨seen', ea⟩ := admitted_no (m := m0) a1 (by rw [a2, a3]; exact hall) (m0.lim + 1 - 0) 0 m0.seen
  rw [ea]
  exact ⟨rfl, a4, a5⟩
section
variable {prog : Program} {w : World} {A : Around} {E : Value → Shared → Prop} {s : Shared}
theorem wp_rules {M : Model} {p : Nat → Bool} {f : Nat → String} {Q : PUnit → Shared → Prop} (h : Q ⟨⟩ s) : ∀ l : List Nat, wpAny M A (forIn l PUnit.unit fun i _ => (do
      if p i = true then do
        rule (f i)
        pure (ForInStep.yield PUnit.unit)
      else pure (ForInStep.yield PUnit.unit))) Q E s
  | [] => wpAny_pure h
  | a :: l => by
    rw [List.forIn_cons]
    refine wpAny_bind ?_
    split
    · exact wpAny_bind (wpAny_rule (wpAny_pure (wp_rules h l)))
    · exact wpAny_pure (wp_rules h l)
theorem drive_no {m : Sre.M} (h1 : m.answer = some false) (h2 : m.frames = []) (h3 : m.outcome = none) : ∃ m' : Sre.M, Builtin.Re.reDrive (2 ^ 64) m = pure m' ∧ m'.outcome = some .failed := by
  refine ⟨{ m with outcome := some .failed }, ?_, rfl⟩
  rw [show (2 ^ 64 : Nat) = 18446744073709551615 + 1 from rfl]
  unfold Builtin.Re.reDrive
  have e : m.runFor Builtin.Re.reTurnSteps = { m with outcome := some .failed } := by
    show m.runFor (3 + 1) = _
    unfold Sre.M.runFor
    rw [if_neg (by rw [h3]; decide)]
    have e1 : m.step = { m with outcome := some .failed } := by
      unfold Sre.M.step
      rw [if_neg (by rw [h3]; decide), h1, h2]
      rfl
    rw [e1]
    rfl
  rw [e]
  rfl
theorem search_none {Q : Value → Shared → Prop} {b : Array UInt8} {t tp tf : Tok} {n : Nat} (hp : s.heap.get? 81 = some (patObj tp tf)) (hc : s.heap.get? 80 = some (codeTup n)) (h0 : 0 < b.size) (hs : b.size < 1000) (hall : ∀ c ∈ b.toList, GreatHex c.toNat) (h : Q .none s) :
    wpAny (model prog w) A (call (.builtin "re.Pattern.search") [.ref 81, .bytes b t]) Q E s := by
  refine wpAny_call_entry Fa.slot_search ⟨_, hp, rfl⟩ Fa.entry_search ?_ (Fa.args_search _ _)
  unfold Builtin.«re.Pattern.search»
  have K : Frag.In [(81, patObj tp tf), (80, codeTup n)] s.heap := by
    intro a o e
    simp only [List.lookup] at e
    split at e
    · rename_i q; cases e; rw [beq_iff_eq.mp q]; exact hp
    · split at e
      · rename_i q; cases e; rw [beq_iff_eq.mp q]; exact hc
      · cases e
  refine wpAny_bind (Looks.here (Looks.of_peek K (target_peek _ b t tp tf n)) ?_)
  dsimp only
  have hm : min 9223372036854775807 (b.map (·.toNat)).size = b.size := by simp; omega
  rw [hm]
  obtain ⟨m, e1, e2, e3, e4⟩ := search_no (text := b.map (·.toNat)) h0 (fun i hi => by
    have : (b.map (·.toNat)).getD i 0 = (b[i]).toNat := by simp [Array.getD, hi]
    rw [this]
    exact hall _ (Array.getElem_mem_toList hi))
  rw [e1]
  obtain ⟨m', e5, e6⟩ := drive_no e2 e3 e4
  unfold Builtin.Re.reAnswer Builtin.Re.reRunToEnd
  rw [e5]
  refine wpAny_bind (wpAny_bind (wpAny_pure (wpAny_bind ?_)))
  refine wp_rules ?_ _
  rw [e6]
  exact wpAny_pure (wpAny_pure ⟨_, rfl, h⟩)
theorem r_gm_search {M : Model} {tp tf : Tok} {pl : Sem Bool} {Q : Value × List Value → Shared → Prop} (hp : s.heap.get? 81 = some (patObj tp tf)) (h : Q (.builtin "re.Pattern.search", [.ref 81]) s) : wpAny M A (getMethod (.ref 81) (PySem.Str.ofString "search") pl) Q E s :=
  getMethod_builtin ⟨_, hp, rfl⟩ Fa.plain_re Fa.slot_search Fa.type_search (fun a e => by cases e; exact ⟨_, hp, rfl⟩) h
end
end Mine
end
theorem Mine.rs_R4 : True := by (w_top off; k_with_none; trivial)

section
open PySem PySem.W PyProof.Rows
set_option Elab.async false
set_option maxRecDepth 100000
namespace Mine
/-- a sign of hexdigits -/
def HexSign (c : Nat) : Bool := (48 ≤ c && c ≤ 57) || (97 ≤ c && c ≤ 102) || (65 ≤ c && c ≤ 70)
theorem hexSign_iff (c : Nat) : HexSign c = true ↔ firstSigns hexS 22 ⟨#[c]⟩ := by
  have key : HexSign c = true ↔ c ∈ hexS.cps.toList := by
    constructor
    · intro h
      have hc : c < 128 := by simp only [HexSign, Bool.or_eq_true, Bool.and_eq_true, decide_eq_true_eq] at h; omega
      have : ∀ c : Fin 128, HexSign c.val = true → c.val ∈ hexS.cps.toList := by decide +kernel
      exact this ⟨c, hc⟩ h
    · intro h
      have : ∀ c ∈ hexS.cps.toList, HexSign c = true := by decide +kernel
      exact this c h
  rw [key]
  constructor
  · intro h
    obtain ⟨i, hi, e⟩ := List.getElem_of_mem h
    exact ⟨i, c, hi, by rw [← Array.getElem?_toList, List.getElem?_eq_getElem hi, e], rfl⟩
  · rintro ⟨j, c', _, h2, h3⟩
    have : c = c' := by injection h3 with h3; simpa using h3
    subst this
    rw [← Array.getElem?_toList] at h2
    exact List.mem_of_getElem? h2
section
variable {prog : Program} {w : World} {A : Around} {E : Value → Shared → Prop} {s : Shared}
theorem fz_has {a : Addr} {es : Array (Int × Value)} {n : Nat} {t : SetTable} {S : PySem.Str → Prop} {k : PySem.Str} {u : Tok} {Q : Bool → Shared → Prop} (hz : s.heap.get? a = some (fzObj es n t)) (hs : es.size ≤ 22) (G : FzOk prog w es t S)
    (h : ∀ b : Bool, (b = true ↔ S k) → Q b { s with toks := s.toks + 1 }) : wpAny (model prog w) A (setContains a (.str k u)) Q E s := by
  unfold setContains
  refine wpAny_holding (wpAny_bind ((strKind prog w).pyHash (strKind_is prog w k u) ?_))
  unfold setFind setFindIn
  refine wpAny_bind (wpAny_bind (wpAny_setState_of hz rfl G.fits ?_))
  dsimp only
  rw [byScan_of (knd := strKind prog w) (x := .str k u) rfl (by have : scanBound = 4096 := rfl; omega) G.elems]
  simp only [↓reduceIte]
  refine wpAny_bind (wpAny_rule ?_)
  refine wpAny_bind (wpAny_setScan_of (strKind_is prog w k u) hz rfl G.fits G.elems ?_)
  cases hr : List.findIdx? (fun e => (strKind prog w).is k e.2) es.toList with
  | none =>
    dsimp only
    refine wpAny_pure (wpAny_pure (h false ?_))
    refine ⟨fun q => Bool.noConfusion q, fun q => ?_⟩
    obtain ⟨e, he, hp⟩ := (G.mem k).mp q
    have := List.findIdx?_eq_none_iff.mp hr e he
    rw [hp] at this; exact Bool.noConfusion this
  | some j =>
    dsimp only
    obtain ⟨hj, hpj, _⟩ := List.findIdx?_eq_some_iff_getElem.mp hr
    exact wpAny_pure (wpAny_pure (h true ⟨fun _ => (G.mem k).mpr ⟨_, List.getElem_mem hj, hpj⟩, fun _ => rfl⟩))
theorem issup_loop {a I : Addr} {es : Array (Int × Value)} {n : Nat} {t : SetTable} {x : PySem.Str} {t₀ : Tok} {R : Result → Shared → Prop} (hh : A.handled = none) (hs : es.size ≤ 22) (G : FzOk prog w es t (firstSigns hexS 22)) (hne : a ≠ I) :
    ∀ (k i : Nat) (s : Shared), x.cps.size - i = k → i ≤ x.cps.size → s.heap.get? a = some (fzObj es n t) → s.heap.IsStrIter I "str_ascii_iterator" x t₀ i →
      (∀ h' tk', Heap.ExtBut I s.heap h' → R (.ok (.ret (.bool ((x.cps.toList.drop i).all HexSign)))) { s with heap := h', toks := tk' }) →
      codeAny (model prog w) A (.builtin "frozenset.issuperset.loop" ⟨[.ref a, .ref I], []⟩) R s := by
  intro k
  induction k with
  | zero =>
    intro i s hk hi hz hit hR
    obtain rfl : i = x.cps.size := by omega
    refine codeAny_builtin Fa.entry_issupL ?_
    rw [Around.under_plainId Fa.plain_issupL _]
    show wpAny _ A.in1 (pyNext (.ref I) >>= _) _ _ _
    refine wpAny_bind (wpAny_pyNext_ascii_end hh hit (by simp) fun h' he => ?_)
    have := hR h' s.toks he
    rw [List.drop_of_length_le (by simp)] at this
    exact wpAny_pure this
  | succ k ih =>
    intro i s hk hi hz hit hR
    have hlt : i < x.cps.size := by omega
    obtain ⟨c, hc⟩ : ∃ c, x.cps[i]? = some c := ⟨_, Array.getElem?_eq_getElem hlt⟩
    have hd : x.cps.toList.drop i = c :: x.cps.toList.drop (i + 1) := by
      rw [List.drop_eq_getElem_cons (by simpa using hlt)]
      rw [Array.getElem?_eq_getElem hlt] at hc
      rw [Array.getElem_toList, Option.some.inj hc]
    refine codeAny_builtin Fa.entry_issupL ?_
    rw [Around.under_plainId Fa.plain_issupL _]
    show wpAny _ A.in1 (pyNext (.ref I) >>= _) _ _ _
    refine wpAny_bind (wpAny_pyNext_ascii_item hit hc fun h' hit' hsb => ?_)
    show wpAny _ A.in1 (holding [.str ⟨#[c]⟩ s.toks] (setContains a (.str ⟨#[c]⟩ s.toks)) >>= _) _ _ _
    have hz' : ({ s with heap := h', toks := s.toks + 1 } : Shared).heap.get? a = some (fzObj es n t) := (hsb.2 a hne).trans hz
    refine wpAny_bind (wpAny_holding (fz_has hz' hs G fun b hb => ?_))
    have hb' : b = HexSign c := by
      rw [Bool.eq_iff_iff, hb, hexSign_iff]
    subst hb'
    cases hx : HexSign c with
    | false =>
      have := hR h' (s.toks + 1 + 1) hsb.extBut
      rw [hd, List.all_cons, hx, Bool.false_and] at this
      exact wpAny_pure this
    | true =>
      refine wpAny_pure ⟨plainId_quiet Fa.plain_issupL _, ih (i + 1) _ (by omega) hlt hz' hit' fun h2 tk2 h3 => ?_⟩
      have := hR h2 tk2 (hsb.extBut.trans h3)
      rw [hd, List.all_cons, hx, Bool.true_and] at this
      exact this
theorem r_issup {es : Array (Int × Value)} {n : Nat} {t : SetTable} {x : PySem.Str} {t₀ : Tok} {Q : Value → Shared → Prop} (hh : A.handled = none) (hz : s.heap.get? 39 = some (fzObj es n t)) (hs : es.size ≤ 22) (G : FzOk prog w es t (firstSigns hexS 22)) (ha : x.cps.all (· < 128) = true)
    (h : ∀ h' tk', (∀ b o, s.heap.get? b = some o → h'.get? b = some o) → Q (.bool (x.cps.toList.all HexSign)) { s with heap := h', toks := tk' }) :
    wpAny (model prog w) A (call (.builtin "frozenset.issuperset") [.ref 39, .str x t₀]) Q E s := by
  refine call_meetsIn (S := fun A' R s' => s' = s ∧ A'.handled = none ∧ R = wants Q E) Fa.slot_issup ⟨_, hz, rfl⟩ Fa.entry_issup (Fa.args_issup _ _) ?_ ⟨rfl, hh, rfl⟩
  rintro A' R s' ⟨es', hh', rfl⟩
  rw [es']
  rw [Fa.issup_eq]
  refine wpAny_bind (wpAny_pyIter_ascii ha ?_)
  refine wpAny_pure ⟨plainId_quiet Fa.plain_issupL _, ?_⟩
  refine issup_loop (I := s.heap.objs.size) (x := x) (t₀ := t₀) hh' hs G (Nat.ne_of_lt (Heap.lt_size hz)) x.cps.size 0 _ (by omega) (Nat.zero_le _) (Heap.get?_push_of_some _ hz) ⟨_, Heap.get?_push_size _ rfl, rfl, rfl⟩ fun h' tk' he => ?_
  exact h h' tk' fun b o e => he b o (Nat.ne_of_lt (Heap.lt_size e)) (Heap.get?_push_of_some _ e)
theorem r_gm_issup {M : Model} {es : Array (Int × Value)} {n : Nat} {t : SetTable} {pl : Sem Bool} {Q : Value × List Value → Shared → Prop} (hz : s.heap.get? 39 = some (fzObj es n t)) (h : Q (.builtin "frozenset.issuperset", [.ref 39]) s) : wpAny M A (getMethod (.ref 39) (PySem.Str.ofString "issuperset") pl) Q E s :=
  getMethod_builtin ⟨_, hz, rfl⟩ Fa.plain_fz Fa.slot_issup Fa.type_issup (fun a e => by cases e; exact ⟨_, hz, rfl⟩) h
end
end Mine
end
theorem Mine.rs_R5 : True := by (w_top off; k_with_none; trivial)

section
open PySem PySem.W PyProof.Rows
set_option Elab.async false
set_option maxRecDepth 100000
namespace Mine
open NumText in
theorem int16_eq (x : PySem.Str) (u tb : Tok) : Builtin.«int.__new__» ⟨[.type "int", .str x u, .int 16 tb], []⟩ = ((int_private% "intFromText") (.str x u) (numTextOf x) 16 >>= fun v => ret v) := by kernel_rfl
theorem int16_typeCall (a b : Value) : checkTypeCall "int" ⟨[a, b], []⟩ = pure () := by kernel_rfl
theorem int16_newCall (a b : Value) : checkBuiltinCall "int.__new__" ⟨[.type "int", a, b], []⟩ = pure () := by kernel_rfl
open NumText
/-- the value of a hex sign -/
def hexDig (c : Nat) : Nat := if c ≤ 57 then c - 48 else if 97 ≤ c then c - 87 else c - 55
def hexVal (cs : List Nat) : Nat := cs.foldl (fun acc c => acc * 16 + hexDig c) 0
theorem hexSign_digit {c : Nat} (h : HexSign c = true) : digit? c = some (hexDig c) ∧ hexDig c < 16 ∧ c ≠ 95 ∧ blank c = false ∧ c ≠ 45 ∧ c ≠ 43 ∧ c ≠ 120 ∧ c ≠ 88 ∧ c < 128 ∧ c ≠ 0 := by
  have hc : c < 128 := by simp only [HexSign, Bool.or_eq_true, Bool.and_eq_true, decide_eq_true_eq] at h; omega
  have : ∀ c : Fin 128, HexSign c.val = true → digit? c.val = some (hexDig c.val) ∧ hexDig c.val < 16 ∧ c.val ≠ 95 ∧ blank c.val = false ∧ c.val ≠ 45 ∧ c.val ≠ 43 ∧ c.val ≠ 120 ∧ c.val ≠ 88 ∧ c.val < 128 ∧ c.val ≠ 0 := by decide +kernel
  exact this ⟨c, hc⟩ h
theorem digits16_go : ∀ (cs : List Nat) (ds : Array Nat) (b : Bool), cs.all HexSign = true → cs.foldlM (NumText.step 16) (ds, b) = some (ds ++ (cs.map hexDig).toArray, b || !cs.isEmpty)
  | [], ds, b, _ => by simp
  | c :: cs, ds, b, h => by
    rw [List.all_cons, Bool.and_eq_true] at h
    obtain ⟨h1, h2, h3, _⟩ := hexSign_digit h.1
    rw [List.foldlM_cons]
    have e : NumText.step 16 (ds, b) c = some (ds.push (hexDig c), true) := by
      unfold NumText.step
      rw [if_neg (by simpa using h3), h1]
      exact if_pos h2
    rw [e]
    show cs.foldlM (NumText.step 16) (ds.push (hexDig c), true) = _
    rw [digits16_go cs _ _ h.2]
    simp
theorem dropBlank {cs : List Nat} (h : cs.all HexSign = true) : cs.dropWhile blank = cs := by
  cases cs with
  | nil => rfl
  | cons c cs =>
    rw [List.all_cons, Bool.and_eq_true] at h
    rw [List.dropWhile_cons, (hexSign_digit h.1).2.2.2.1]; rfl
theorem based16 {cs : List Nat} (h : cs.all HexSign = true) : based 16 cs = (16, false, cs) := by
  unfold based
  have hp : ∀ p, prefix? cs = some p → p ≠ 16 := by
    intro p hp
    unfold prefix? at hp
    split at hp
    · rename_i c r
      rw [List.all_cons, List.all_cons, Bool.and_eq_true, Bool.and_eq_true] at h
      have q := hexSign_digit h.2.1
      split at hp
      · rename_i hx
        simp only [Bool.or_eq_true, beq_iff_eq] at hx
        rcases hx with e | e
        · exact absurd e q.2.2.2.2.2.2.1
        · exact absurd e q.2.2.2.2.2.2.2.1
      · split at hp
        · cases hp; decide
        · split at hp
          · cases hp; decide
          · cases hp
    · cases hp
  split
  · rename_i p e
    rw [if_neg]
    simp only [Bool.or_eq_true, beq_iff_eq]
    rintro (q | q)
    · cases q
    · exact hp p e q.symm
  · rfl
theorem sign16 {cs : List Nat} (h : cs.all HexSign = true) : sign cs = (false, cs) := by
  cases cs with
  | nil => rfl
  | cons c cs =>
    rw [List.all_cons, Bool.and_eq_true] at h
    have q := hexSign_digit h.1
    unfold sign
    split
    · rename_i r e; cases e; exact absurd rfl q.2.2.2.2.1
    · rename_i r e; cases e; exact absurd rfl q.2.2.2.2.2.1
    · rfl
theorem foldl_map_hex (cs : List Nat) : ∀ a : Nat, (cs.map hexDig).foldl (fun acc d => acc * 16 + d) a = cs.foldl (fun acc c => acc * 16 + hexDig c) a := by
  induction cs with
  | nil => intro a; rfl
  | cons c cs ih => intro a; rw [List.map_cons, List.foldl_cons, List.foldl_cons, ih]
theorem read16 {cs : List Nat} (h : cs.all HexSign = true) (hne : cs ≠ []) : (int_private% "readNumeral") 0 16 cs = (int_private% "Numeral.value") (hexVal cs : Int) := by
  rw [readNumeral_eq, dropBlank h, sign16 h, based16 h]
  dsimp only
  have hr : (cs.reverse.dropWhile blank).reverse = cs := by
    rw [dropBlank (by rw [List.all_reverse]; exact h), List.reverse_reverse]
  have hd : digits? 16 cs = some (cs.map hexDig).toArray := by
    unfold digits?
    rw [digits16_go cs #[] false h]
    have : cs.isEmpty = false := by cases cs with | nil => exact absurd rfl hne | cons _ _ => rfl
    rw [this]
    simp
  rw [hr, hd]
  have hj : ∀ ds : Array Nat, judge 0 false 16 false (some ds) = (int_private% "Numeral.value") ((ds.foldl (fun acc d => acc * 16 + d) 0 : Nat) : Int) := fun _ => rfl
  rw [hj, List.foldl_toArray, foldl_map_hex]
  rfl
theorem takeAll {cs : List Nat} (h : cs.all HexSign = true) : cs.takeWhile (· != 0) = cs := by
  induction cs with
  | nil => rfl
  | cons c cs ih =>
    rw [List.all_cons, Bool.and_eq_true] at h
    rw [List.takeWhile_cons, if_pos (by simpa using (hexSign_digit h.1).2.2.2.2.2.2.2.2.2), ih h.2]
theorem numText16 {cs : List Nat} (h : cs.all HexSign = true) : numTextOf ⟨cs.toArray⟩ = cs := by
  show (if cs.toArray.all (· < 128) then cs.toArray.toList else Unicode.numberText cs.toArray.toList) = cs
  rw [if_pos]
  rw [List.all_toArray]
  rw [List.all_eq_true] at h ⊢
  intro c hc
  exact decide_eq_true (hexSign_digit (h c hc)).2.2.2.2.2.2.2.2.1
section
variable {prog : Program} {w : World} {A : Around} {E : Value → Shared → Prop} {s : Shared} {Q : Value → Shared → Prop}
theorem wp_text16 {M : Model} {v : Value} {cs : List Nat} (hl : cs.length ≤ 640) (hx : cs.all HexSign = true) (hne : cs ≠ []) (h : Q (.int (hexVal cs) s.toks) { s with toks := s.toks + 1 }) :
    wpAny M A ((int_private% "intFromText") v cs 16) Q E s := by
  obtain ⟨hp, g, d, tk, os⟩ := s
  have ht := takeAll hx
  have hs : (cs.takeWhile (· != 0)).length ≤ 640 := by rw [ht]; exact hl
  have hr : (int_private% "readNumeral") 0 16 (cs.takeWhile (· != 0)) = (int_private% "Numeral.value") (hexVal cs : Int) := by rw [ht]; exact read16 hx hne
  have ha : ((cs.takeWhile (· != 0)).length == cs.length) = true := by rw [ht]; exact beq_self_eq_true _
  repeat (any_goals (first
    | assumption
    | (with_reducible refine wpAny_ite_true (decide_eq_true hs) ?_)
    | (with_reducible refine wpAny_ite_true (decide_eq_true ha) ?_)
    | wp_step))
  all_goals (try rw [hr])
  all_goals (try dsimp only)
  repeat (any_goals (first
    | assumption
    | (with_reducible refine wpAny_ite_true (decide_eq_true hs) ?_)
    | (with_reducible refine wpAny_ite_true (decide_eq_true ha) ?_)
    | wp_step))
theorem r_int16 {cs : List Nat} {t tb : Tok} (hl : cs.length ≤ 640) (hx : cs.all HexSign = true) (hne : cs ≠ []) (h : Q (.int (hexVal cs) s.toks) { s with toks := s.toks + 1 }) :
    wpAny (model prog w) A (call (.type "int") [.str ⟨cs.toArray⟩ t, .int 16 tb]) Q E s := by
  have g : Gives (Builtin.«int.__new__» ⟨[.type "int", .str ⟨cs.toArray⟩ t, .int 16 tb], []⟩) (.int (hexVal cs)) := .of_wp fun M A E s Q h => by
    rw [int16_eq, numText16 hx]
    exact wpAny_bind (wp_text16 hl hx hne (wpAny_pure ⟨_, rfl, h⟩))
  exact callType_new F.called_int F.newNe_int (int16_typeCall _ _) (int16_newCall _ _) (fun obj => by unfold argsOk; kernel_rfl) F.entry_int_new g.meets (show (Made.int _).post _ s from ⟨rfl, h⟩)
end
end Mine
end
theorem Mine.rs_R6 : True := by (w_top off; k_with_none; trivial)

section
open PySem PySem.W PyProof.Rows
set_option Elab.async false
set_option maxRecDepth 100000
namespace Mine
/-- the road of str(bytes, 'ascii') -/
theorem strNew_eq (b : Array UInt8) (t t2 : Tok) : Builtin.«str.__new__» ⟨[.type "str", .bytes b t, .str (PySem.Str.ofString "ascii") t2], []⟩ =
    ((mkStr (PySem.Str.ofString "ascii") >>= fun e => rule "str.__new__.decode-bytes" >>= fun _ => call (.builtin "bytes.decode") [.bytes b t] [(PySem.Str.ofString "encoding", e)]) >>= fun v => ret v) := by kernel_rfl
theorem dec_eq (b0 : UInt8) (bs : List UInt8) (t te : Tok) : Builtin.«bytes.decode» ⟨[.bytes (b0 :: bs).toArray t], [(PySem.Str.ofString "encoding", .str (PySem.Str.ofString "ascii") te)]⟩ =
    (mkStr (PySem.Str.ofString "utf-8") >>= fun _ => mkStr (PySem.Str.ofString "ascii") >>= fun e => mkStr (PySem.Str.ofString "bytes.decode") >>= fun d => call (.builtin "_codecs.decode.text") [.bytes (b0 :: bs).toArray t, e, .none, d] >>= fun v => ret v) := by kernel_rfl
theorem dec_check (b : Array UInt8) (t te : Tok) : checkBuiltinCall "bytes.decode" ⟨[.bytes b t], [(PySem.Str.ofString "encoding", .str (PySem.Str.ofString "ascii") te)]⟩ = pure () := by kernel_rfl
theorem strNew_typeCall (a b : Value) : checkTypeCall "str" ⟨[a, b], []⟩ = pure () := by kernel_rfl
theorem strNew_newCall (a b : Value) : checkBuiltinCall "str.__new__" ⟨[.type "str", a, b], []⟩ = pure () := by kernel_rfl
theorem text_eq (b : Array UInt8) (t t1 t2 : Tok) : Builtin.«_codecs.decode.text» ⟨[.bytes b t, .str (PySem.Str.ofString "ascii") t1, .none, .str (PySem.Str.ofString "bytes.decode") t2], []⟩ =
    ((Builtin._codecs.runDecoder "bytes.decode" Builtin._codecs.asciiDecoder none true b 0 [] >>= fun r => mkStr ⟨r.1⟩) >>= fun v => ret v) := by kernel_rfl
theorem forIn_each {S : Type} {f : Nat → S → Sem (ForInStep S)} {st : Nat → S} {n : Nat} (h : ∀ x i, i < n → f x (st i) = pure (.yield (st (i + 1)))) : ∀ (l : List Nat) (i : Nat), i + l.length ≤ n → forIn l (st i) f = pure (st (i + l.length))
  | [], i, _ => rfl
  | a :: l, i, hi => by
    simp only [List.length_cons] at hi
    rw [List.forIn_cons, h a i (by omega)]
    show forIn l (st (i + 1)) f = _
    rw [forIn_each h l (i + 1) (by omega), List.length_cons, show i + 1 + l.length = i + (l.length + 1) by omega]
theorem run_ascii {l : List UInt8} (h : ∀ c ∈ l, c.toNat < 128) (hl : l.length ≤ 1000) {id : String} : Builtin._codecs.runDecoder id Builtin._codecs.asciiDecoder none true l.toArray 0 [] = pure ((l.map (·.toNat)).toArray, l.length) := by
  unfold Builtin._codecs.runDecoder
  simp only [Std.Legacy.Range.forIn_eq_forIn_range']
  have hr : List.range' 0 [:l.toArray.size].size = List.range' 0 l.length := by
    show List.range' 0 ((l.length - 0 + 1 - 1) / 1) = _
    rw [show (l.length - 0 + 1 - 1) / 1 = l.length by omega]
  let st : Nat → Nat × Array Nat × Builtin._codecs.Faults := fun i => (i, ((l.take i).map (·.toNat)).toArray, {})
  have key : ∀ f : Nat → Nat × Array Nat × Builtin._codecs.Faults → Sem (ForInStep (Nat × Array Nat × Builtin._codecs.Faults)), (∀ x i, i < l.length → f x (st i) = pure (.yield (st (i + 1)))) →
      forIn (List.range' 0 l.length) (0, #[], {}) f = pure (l.length, (l.map (·.toNat)).toArray, {}) := by
    intro f hf
    have := forIn_each hf (List.range' 0 l.length) 0 (by simp)
    have e1 : st (0 + (List.range' 0 l.length).length) = (l.length, (l.map (·.toNat)).toArray, {}) := by
      simp only [st, List.length_range', Nat.zero_add, List.take_length]
    rw [e1] at this
    exact this
  rw [hr, key _ ?_]
  · rfl
  · intro x i hi
    dsimp only [st]
    rw [if_neg (by rw [sizeLine_eq]; simp; omega), if_neg (by simp; omega)]
    have hc : (l.toArray.getD i 0).toNat < 128 := by
      have : l.toArray.getD i 0 = l[i] := by simp [Array.getD, hi]
      rw [this]; exact h _ (List.getElem_mem hi)
    have e : Builtin._codecs.asciiDecoder.find true l.toArray i = Builtin._codecs.Found.text [(l.toArray.getD i 0).toNat] (i + 1) := by
      show (if (l.toArray.getD i 0).toNat < 128 then _ else _) = _
      rw [if_pos hc]; rfl
    rw [e]
    dsimp only
    have : l.toArray.getD i 0 = l[i] := by simp [Array.getD, hi]
    have e2 : ((l.take i).map (·.toNat)).toArray ++ [(l.toArray.getD i 0).toNat].toArray = ((l.take (i + 1)).map (·.toNat)).toArray := by
      have e3 : l.take (i + 1) = l.take i ++ [l[i]] := by rw [List.take_add_one, List.getElem?_eq_getElem hi]; rfl
      rw [this, e3, List.map_append]
      exact List.append_toArray _ _
    rw [e2]
section
variable {prog : Program} {w : World} {A : Around} {E : Value → Shared → Prop} {s : Shared} {Q : Value → Shared → Prop}
theorem wp_dec {b0 : UInt8} {bs : List UInt8} {t te : Tok} (h : ∀ c ∈ b0 :: bs, c.toNat < 128) (hl : (b0 :: bs).length ≤ 1000) (hq : ∀ tk tk', Q (.str ⟨((b0 :: bs).map (·.toNat)).toArray⟩ tk) { s with toks := tk' }) :
    wpAny (model prog w) A (call (.builtin "bytes.decode") [.bytes (b0 :: bs).toArray t] [(PySem.Str.ofString "encoding", .str (PySem.Str.ofString "ascii") te)]) Q E s := by
  refine wpAny_call (codeAny_call_builtin FB.slot_bytes_decode.plain FB.entry_bytes_decode ?_)
  rw [dec_check]
  refine wpAny_pure ?_
  rw [dec_eq]
  refine wpAny_bind (wpAny_mkStr ?_ (by decide))
  refine wpAny_bind (wpAny_mkStr ?_ (by decide))
  refine wpAny_bind (wpAny_mkStr ?_ (by decide))
  refine wpAny_bind (PySem.Calls.call_function_entry KBd.kind_text KBd.plain_text KBd.entry_text (KBd.args_text _ _ _ _) ?_)
  rw [text_eq, run_ascii h hl]
  refine wpAny_bind (wpAny_bind (wpAny_pure (wpAny_mkStr (wpAny_pure ⟨_, rfl, wpAny_pure (hq _ _)⟩) ?_)))
  show ((b0 :: bs).map (·.toNat)).toArray.size ≤ sizeLine
  rw [sizeLine_eq]; simp at hl ⊢; omega
theorem r_strAscii {b0 : UInt8} {bs : List UInt8} {t t2 : Tok} (h : ∀ c ∈ b0 :: bs, c.toNat < 128) (hl : (b0 :: bs).length ≤ 1000) (hq : ∀ tk tk', Q (.str ⟨((b0 :: bs).map (·.toNat)).toArray⟩ tk) { s with toks := tk' }) :
    wpAny (model prog w) A (call (.type "str") [.bytes (b0 :: bs).toArray t, .str (PySem.Str.ofString "ascii") t2]) Q E s := by
  refine callType_new (S := fun _ R s' => ∀ tk tk', R (.ok (.ret (.str ⟨((b0 :: bs).map (·.toNat)).toArray⟩ tk))) { s' with toks := tk' }) F.called_str (by decide) (strNew_typeCall _ _) (strNew_newCall _ _) (fun obj => by unfold argsOk; kernel_rfl) F.entry_str_new ?_ (fun tk tk' => ⟨typeIs_str _ _ _, hq tk tk'⟩)
  intro prog' w' A' R s' hS
  rw [strNew_eq]
  refine wpAny_bind (wpAny_bind (wpAny_mkStr (wpAny_bind (wpAny_rule ?_)) (by decide)))
  exact wp_dec h hl fun tk tk' => wpAny_pure (hS tk tk')
end
end Mine
end
theorem Mine.rs_R7 : True := by (w_top off; k_with_none; trivial)

section
open PySem PySem.W PyProof.Rows
set_option Elab.async false
set_option maxRecDepth 100000
namespace Mine
/-- what a def of the text hands back, whoever calls it -/
abbrev Clm (w : World) (p : Program) (loose : List PySem.Str) (mean : ExcName → Option Value) (mg mb : PySem.Str → Option Value) (news : List (Addr × Obj)) (f : Addr) (lv : Nat) (vs : List Value) (R : Tok → Value) : Prop :=
  ∀ (dp un : Nat) (gd : Option (List Code)) (cn : PySem.Str) (cs : Scope) (a : Addr) (ccd : Value) (cl : List (PySem.Str × Addr)) (outer : List Env) (A₀ : Around) (base h₀ : Heap) (L : Addr) (m : PySem.Str → Option Value) (s : Shared) (Q E : Value → Shared → Prop),
    Below A₀ base outer h₀ → Fr h₀ L s.heap m → (hd.heap_39 w.params).In h₀ → News h₀ L s.heap news → Top p loose mean mg mb h₀ → cs.kind = .function → FzAt w base → dp + lv < recursionLimit → un + 8 * lv < cLine →
    (∀ (t : Tok) (h' : Heap) (tk' : Nat), Fr h₀ L h' m → News h₀ L h' news → Q (R t) { s with heap := h', toks := tk' }) →
    wpAny (model PySem.Challenge.rw_qh0008_01.row.prog w) (ktrTop dp un gd cn cs L a ccd cl outer) (call (.ref f) vs) Q E s
theorem two4 : (2 : Int) ^ Int.toNat 4 = 16 := rfl
section
variable {prog : Program} {w : World} {A : Around} {E : Value → Shared → Prop} {s : Shared} {Q : Value → Shared → Prop}
theorem r_len8 {c0 c1 c2 c3 c4 c5 c6 c7 : UInt8} {t : Tok} (h : Q (.int 8 (s.toks + 1)) { s with toks := s.toks + 1 + 1 }) : wpAny (model prog w) A (call (.builtin "len") [.bytes [c0, c1, c2, c3, c4, c5, c6, c7].toArray t]) Q E s :=
  PySem.W.len_bytes (by show 8 ≤ 1099511627776; decide) h
theorem r_len4 {c0 c1 c2 c3 : UInt8} {t : Tok} (h : Q (.int 4 (s.toks + 1)) { s with toks := s.toks + 1 + 1 }) : wpAny (model prog w) A (call (.builtin "len") [.bytes [c0, c1, c2, c3].toArray t]) Q E s :=
  PySem.W.len_bytes (by show 4 ≤ 1099511627776; decide) h
theorem r_bytes {h₀ : Heap} {L : Addr} {m : PySem.Str → Option Value} {news : List (Addr × Obj)} {l : Addr} {vs : List Value} {ns : List Int} (F : Fr h₀ L s.heap m) (N : News h₀ L s.heap news) (hl : s.heap.IsList l vs.toArray) (hi : IntsAre vs ns) (hr : ∀ n ∈ ns, 0 ≤ n ∧ n < 256) (hz : ns.length ≤ 1000) (hh : A.handled = none)
    (h : ∀ h' t k, Fr h₀ L h' m → News h₀ L h' news → Q (.bytes (byteArr ns) t) { s with heap := h', toks := k }) : wpAny (model prog w) A (call (.type "bytes") [.ref l]) Q E s :=
  bytes_K F N hl hi hr (by rw [hi.length, sizeLine_eq]; omega) hh fun h' t k F' N' _ => h h' t k F' N'
end
end Mine
end
theorem Mine.rs_Q0 : True := by (w_top off; k_with_none; trivial)

section
open PySem PySem.W PyProof.Rows
set_option Elab.async false
set_option maxRecDepth 100000
namespace Mine
/-- the frame's map with one name more -/
def put (x : PySem.Str) (v : Value) (m : PySem.Str → Option Value) : PySem.Str → Option Value := fun y => if y = x then some v else m y
section
variable {M : Model} {A : Around} {E : Value → Shared → Prop} {h₀ : Heap} {L a : Addr} {m : PySem.Str → Option Value} {cn : PySem.Str} {cs : Scope} {ccd : Value} {cl : List (PySem.Str × Addr)}
  {x : PySem.Str} {v : Value} {Q : Unit → Shared → Prop} {news : List (Addr × Obj)}
/-- a store into the frame: the map by a let, the marks forgotten -/
theorem storeX_P {s : Shared} (F : Fr h₀ L s.heap m) (N : News h₀ L s.heap news)
    (h : let m' := put x v m; ∀ h' tk, Fr h₀ L h' m' → News h₀ L h' news → Q () ⟨h', s.gens, s.drawn, tk, s.os⟩)
    (hk : cs.kind = .function := by rfl) (hx : (envX cn cs L a ccd cl).kindOf x = some .local := by rfl) : wpAny M A (storeName (envX cn cs L a ccd cl) x v) Q E s :=
  storeX_L F N (fun h' F' N' => h h' (s.toks + 1) F' N') hk hx
theorem storeX_I {s : Shared} {i : Int} {t : Tok} (F : Fr h₀ L s.heap m) (N : News h₀ L s.heap news)
    (h : ∀ t', let m' := put x (.int i t') m; ∀ h' tk, Fr h₀ L h' m' → News h₀ L h' news → Q () ⟨h', s.gens, s.drawn, tk, s.os⟩)
    (hk : cs.kind = .function := by rfl) (hx : (envX cn cs L a ccd cl).kindOf x = some .local := by rfl) : wpAny M A (storeName (envX cn cs L a ccd cl) x (.int i t)) Q E s :=
  storeX_L F N (fun h' F' N' => h t h' (s.toks + 1) F' N') hk hx
theorem storeX_S {s : Shared} {i : PySem.Str} {t : Tok} (F : Fr h₀ L s.heap m) (N : News h₀ L s.heap news)
    (h : ∀ t', let m' := put x (.str i t') m; ∀ h' tk, Fr h₀ L h' m' → News h₀ L h' news → Q () ⟨h', s.gens, s.drawn, tk, s.os⟩)
    (hk : cs.kind = .function := by rfl) (hx : (envX cn cs L a ccd cl).kindOf x = some .local := by rfl) : wpAny M A (storeName (envX cn cs L a ccd cl) x (.str i t)) Q E s :=
  storeX_L F N (fun h' F' N' => h t h' (s.toks + 1) F' N') hk hx
end
end Mine
end
theorem Mine.rs_S0 : True := by (w_top off; k_with_none; trivial)

section
open PySem PySem.W PyProof.Rows
set_option Elab.async false
set_option maxRecDepth 100000
set_option linter.unusedVariables false
namespace Mine

theorem kwC2_1 : True := by
  k_with_none
  (k_with "storeName" => (k_here; (try dsimp only); k_dflt (refine' storeX_P ?F ?N ?_ ?a ?b; (case F => k_asm); (case N => k_asm); (case a => rfl); (case b => rfl); k_whole); intro m' h' tk' F' N'; (try k_sweep)))
  (k_with "storeName" => (k_here; (try dsimp only); (with_reducible show wpAny _ _ (storeName _ _ (Value.int _ (HAdd.hAdd _ _))) _ _ _); k_dflt (refine' storeX_I ?F ?N ?_ ?a ?b; (case F => k_asm); (case N => k_asm); (case a => rfl); (case b => rfl); k_whole); intro t' m' h' tk' F' N'; (try k_sweep)))
  (k_with "storeName" => (k_here; (try dsimp only); (with_reducible show wpAny _ _ (storeName _ _ (Value.str _ (HAdd.hAdd _ _))) _ _ _); k_dflt (refine' storeX_S ?F ?N ?_ ?a ?b; (case F => k_asm); (case N => k_asm); (case a => rfl); (case b => rfl); k_whole); intro t' m' h' tk' F' N'; (try k_sweep)))
  (k_with "call type:type" => (k_here; (with_reducible show wpAny _ _ (call (Value.type "type") [Value.bytes _ _]) _ _ _); refine r_type_bytes ?_))
  (k_with "getMethod str" => (k_here; (with_reducible refine r_gm_encode ?_)))
  (k_with "getMethod bytes" => (k_here; (with_reducible refine r_gm_upper ?_)))
  (k_with "getMethod bytes" => (k_here; (with_reducible refine r_gm_hex ?_)))
  (k_with "call builtin:str.encode" => (k_here; (with_reducible refine' r_encode ?q1 ?q2 ?_; (case q1 => assumption); (case q2 => first | assumption | decide))))
  (k_with "call builtin:bytes.upper" => (k_here; (with_reducible refine' r_upper ?q1 ?_; (case q1 => first | assumption | decide))))
  (k_with "call builtin:bytes.hex" => (k_here; (with_reducible refine' r_hex ?q1 ?_; (case q1 => first | assumption | decide))))
  (k_with "call builtin:len" => (k_here; (with_reducible refine r_len8 ?_)))
  (k_with "call builtin:len" => (k_here; (with_reducible refine r_len4 ?_)))
  trivial
set_option maxHeartbeats 4000000 in
theorem buffer_spec (w : World) (p : Program) (loose : List PySem.Str) (mean : ExcName → Option Value) (mg mb : PySem.Str → Option Value) (news : List (Addr × Obj)) (b : Array UInt8) (t : Tok) :
    Clm w p loose mean mg mb news 116 2 [.bytes b t] (fun t => .bytes b t) := by
  dsimp only [Clm]
  k_fill
  intros
  rename_i hret
  refine wpAny_call ?_
  k_dflt cell_enter
  k_steps
  all_goals (first | (refine hret _ _ _ ?_ ?_ <;> k_asm) | cb_end hret | w_report)

set_option maxHeartbeats 4000000 in
theorem abuffer_spec (w : World) (p : Program) (loose : List PySem.Str) (mean : ExcName → Option Value) (mg mb : PySem.Str → Option Value) (news : List (Addr × Obj)) (b : Array UInt8) (t : Tok) :
    Clm w p loose mean mg mb news 109 2 [.bytes b t] (fun t => .bytes b t) := by
  dsimp only [Clm]
  k_fill
  intros
  rename_i hret
  refine wpAny_call ?_
  k_dflt cell_enter
  k_steps
  all_goals (first | (refine hret _ _ _ ?_ ?_ <;> k_asm) | cb_end hret | w_report)

set_option maxHeartbeats 4000000 in
theorem truth_spec (w : World) (p : Program) (loose : List PySem.Str) (mean : ExcName → Option Value) (mg mb : PySem.Str → Option Value) (news : List (Addr × Obj)) (x : Bool) :
    Clm w p loose mean mg mb news 123 2 [.bool x] (fun t => .bool x) := by
  dsimp only [Clm]
  k_fill
  intros
  rename_i hret
  refine wpAny_call ?_
  k_dflt cell_enter
  k_steps
  all_goals (first | (refine hret _ _ _ ?_ ?_ <;> k_asm) | cb_end hret | w_report)

set_option maxHeartbeats 4000000 in
theorem bfd_spec (w : World) (p : Program) (loose : List PySem.Str) (mean : ExcName → Option Value) (mg mb : PySem.Str → Option Value) (news : List (Addr × Obj)) (c : Nat) (cs : List Nat) (t : Tok) (hx : ∀ y ∈ c :: cs, y < 128) (hl : cs.length < 1000):
    Clm w p loose mean mg mb news 89 2 [.str ⟨(c :: cs).toArray⟩ t] (fun t => .bytes ((c :: cs).map (·.toUInt8)).toArray t) := by
  dsimp only [Clm]
  k_fill
  intros
  rename_i hret
  refine wpAny_call ?_
  k_dflt cell_enter
  k_steps
  all_goals (first | (refine hret _ _ _ ?_ ?_ <;> k_asm) | cb_end hret | w_report)

set_option maxHeartbeats 4000000 in
theorem scalar_spec (w : World) (p : Program) (loose : List PySem.Str) (mean : ExcName → Option Value) (mg mb : PySem.Str → Option Value) (news : List (Addr × Obj)) (x : Int) (t : Tok) :
    Clm w p loose mean mg mb news 76 2 [.int x t] (fun t => .bool ((decide (0 ≤ x) && decide (x ≤ 55295)) || (decide (57344 ≤ x) && decide (x ≤ 1114111)))) := by
  dsimp only [Clm]
  k_fill
  intros
  rename_i hret
  refine wpAny_call ?_
  k_dflt cell_enter
  k_steps
  all_goals (first | (refine hret _ _ _ ?_ ?_ <;> k_asm) | cb_end hret | w_report)

def hexValue (c : Int) : Int := if 48 ≤ c ∧ c ≤ 57 then c - 48 else if 65 ≤ c ∧ c ≤ 70 then c - 55 else if 97 ≤ c ∧ c ≤ 102 then c - 87 else 16

set_option maxHeartbeats 4000000 in
theorem hexValue_spec (w : World) (p : Program) (loose : List PySem.Str) (mean : ExcName → Option Value) (mg mb : PySem.Str → Option Value) (news : List (Addr × Obj)) (c : Int) (t : Tok) :
    Clm w p loose mean mg mb news 162 2 [.int c t] (fun t => .int (hexValue c) t) := by
  dsimp only [Clm]
  k_fill
  intros
  rename_i hret
  refine wpAny_call ?_
  k_dflt cell_enter
  k_steps
  k_with "tree" => simp only [hexValue]
  all_goals (first | (refine hret _ _ _ ?_ ?_ <;> k_asm) | cb_end hret | w_report)

end Mine
end
theorem Mine.rs_C2 : True := by (w_top off; k_with_none; trivial)

section
open PySem PySem.W PyProof.Rows
set_option Elab.async false
set_option maxRecDepth 100000
set_option linter.unusedVariables false
namespace Mine
theorem hexValue_at (w : World) (p : Program) (loose : List PySem.Str) (mean : ExcName → Option Value) (mg mb : PySem.Str → Option Value) (news : List (Addr × Obj)) (c d : Int) (t : Tok) (h : hexValue c = d) :
    Clm w p loose mean mg mb news 162 2 [.int c t] (fun t => .int d t) := h ▸ hexValue_spec w p loose mean mg mb news c t

theorem kwC3_1 : True := by
  k_with_none
  (k_with "storeName" => (k_here; (try dsimp only); k_dflt (refine' storeX_P ?F ?N ?_ ?a ?b; (case F => k_asm); (case N => k_asm); (case a => rfl); (case b => rfl); k_whole); intro m' h' tk' F' N'; (try k_sweep)))
  (k_with "storeName" => (k_here; (try dsimp only); (with_reducible show wpAny _ _ (storeName _ _ (Value.int _ (HAdd.hAdd _ _))) _ _ _); k_dflt (refine' storeX_I ?F ?N ?_ ?a ?b; (case F => k_asm); (case N => k_asm); (case a => rfl); (case b => rfl); k_whole); intro t' m' h' tk' F' N'; (try k_sweep)))
  (k_with "storeName" => (k_here; (try dsimp only); (with_reducible show wpAny _ _ (storeName _ _ (Value.str _ (HAdd.hAdd _ _))) _ _ _); k_dflt (refine' storeX_S ?F ?N ?_ ?a ?b; (case F => k_asm); (case N => k_asm); (case a => rfl); (case b => rfl); k_whole); intro t' m' h' tk' F' N'; (try k_sweep)))
  (k_with "call type:type" => (k_here; (with_reducible show wpAny _ _ (call (Value.type "type") [Value.bytes _ _]) _ _ _); refine r_type_bytes ?_))
  (k_with "getMethod str" => (k_here; (with_reducible refine r_gm_encode ?_)))
  (k_with "getMethod bytes" => (k_here; (with_reducible refine r_gm_upper ?_)))
  (k_with "getMethod bytes" => (k_here; (with_reducible refine r_gm_hex ?_)))
  (k_with "call builtin:str.encode" => (k_here; (with_reducible refine' r_encode ?q1 ?q2 ?_; (case q1 => assumption); (case q2 => first | assumption | decide))))
  (k_with "call builtin:bytes.upper" => (k_here; (with_reducible refine' r_upper ?q1 ?_; (case q1 => first | assumption | decide))))
  (k_with "call builtin:bytes.hex" => (k_here; (with_reducible refine' r_hex ?q1 ?_; (case q1 => first | assumption | decide))))
  (k_with "call builtin:len" => (k_here; (with_reducible refine r_len8 ?_)))
  (k_with "call builtin:len" => (k_here; (with_reducible refine r_len4 ?_)))
  (k_with "call type:bytes" => (k_here; (with_reducible show wpAny _ _ (call (Value.type "bytes") [Value.ref _]) _ _ _); k_dflt (refine' r_bytes ?F ?N ?l ?i ?r ?z ?h ?_; (case F => k_asm); (case N => k_asm); (case l => is_list); (case i => (simp only [List.concat_eq_append, Array.toList_push, List.nil_append, List.cons_append, List.append_assoc]; (repeat' (first | (with_reducible exact IntsAre.nil) | (with_reducible refine' IntsAre.cons _ _ ?_))))); (case r => (simp only [List.forall_mem_cons, List.not_mem_nil, false_implies, implies_true, and_true, two4]; omega)); (case z => first | exact Nat.le_of_ble_eq_true rfl | (simp only [List.length_cons, List.length_nil]; omega)); (case h => with_unfolding_all rfl); k_whole); intro h' t' k' F' N'))
  (k_with "call ref" => (k_here; (with_reducible show wpAny _ _ (call (Value.ref 109) _) _ _ _); (refine' abuffer_spec _ _ _ _ _ _ _ _ _  _ _ _ _ _ _ _ _ _ _ _ _ _ _ _ _ _ ?k1 ?k2 ?k3 ?k4 ?k5 ?kK ?kz ?kd ?ku ?_; (case k1 => k_asm); (case k2 => k_asm); (case k3 => k_asm); (case k4 => k_asm); (case k5 => k_asm); (case kK => first | exact rfl | assumption); (case kz => assumption); (case kd => first | omega | ktr_room); (case ku => first | omega | ktr_units); intro t9 h9 tk9 F9 N9; (try dsimp only); (try k_fold))))
  (k_with "call ref" => (k_here; (with_reducible show wpAny _ _ (call (Value.ref 162) _) _ _ _); (refine' hexValue_at _ _ _ _ _ _ _ _ _ _ ?q0 _ _ _ _ _ _ _ _ _ _ _ _ _ _ _ _ _ ?k1 ?k2 ?k3 ?k4 ?k5 ?kK ?kz ?kd ?ku ?_; (case q0 => first | assumption); (case k1 => k_asm); (case k2 => k_asm); (case k3 => k_asm); (case k4 => k_asm); (case k5 => k_asm); (case kK => first | exact rfl | assumption); (case kz => assumption); (case kd => first | omega | ktr_room); (case ku => first | omega | ktr_units); intro t9 h9 tk9 F9 N9; (try dsimp only); (try k_fold))))
  trivial
set_option maxHeartbeats 4000000 in
theorem a2bhex_spec (w : World) (p : Program) (loose : List PySem.Str) (mean : ExcName → Option Value) (mg mb : PySem.Str → Option Value) (news : List (Addr × Obj)) (c0 c1 c2 c3 c4 c5 c6 c7 : UInt8) (d0 d1 d2 d3 d4 d5 d6 d7 : Int) (t : Tok) (h0 : hexValue (c0.toNat : Int) = d0) (b0 : 0 ≤ d0 ∧ d0 < 16) (h1 : hexValue (c1.toNat : Int) = d1) (b1 : 0 ≤ d1 ∧ d1 < 16) (h2 : hexValue (c2.toNat : Int) = d2) (b2 : 0 ≤ d2 ∧ d2 < 16) (h3 : hexValue (c3.toNat : Int) = d3) (b3 : 0 ≤ d3 ∧ d3 < 16) (h4 : hexValue (c4.toNat : Int) = d4) (b4 : 0 ≤ d4 ∧ d4 < 16) (h5 : hexValue (c5.toNat : Int) = d5) (b5 : 0 ≤ d5 ∧ d5 < 16) (h6 : hexValue (c6.toNat : Int) = d6) (b6 : 0 ≤ d6 ∧ d6 < 16) (h7 : hexValue (c7.toNat : Int) = d7) (b7 : 0 ≤ d7 ∧ d7 < 16):
    Clm w p loose mean mg mb news 169 4 [.bytes [c0, c1, c2, c3, c4, c5, c6, c7].toArray t]  (fun t => .bytes (byteArr [d0 * 2 ^ Int.toNat 4 + d1, d2 * 2 ^ Int.toNat 4 + d3, d4 * 2 ^ Int.toNat 4 + d5, d6 * 2 ^ Int.toNat 4 + d7]) t) := by
  dsimp only [Clm]
  k_fill
  intros
  rename_i hret
  refine wpAny_call ?_
  k_dflt cell_enter
  k_steps
  all_goals (first | (refine hret _ _ _ ?e2 ?e3; (case e2 => k_asm); (case e3 => first | k_asm | (refine' cb_drop ?cbN ?cbS; (case cbN => assumption); (case cbS => k_sub)))) | cb_end hret | w_report)

end Mine
end
theorem Mine.rs_C3 : True := by (w_top off; k_with_none; trivial)

section
open PySem PySem.W PyProof.Rows
set_option Elab.async false
set_option maxRecDepth 100000
set_option linter.unusedVariables false
namespace Mine
theorem bfd8 (w : World) (p : Program) (loose : List PySem.Str) (mean : ExcName → Option Value) (mg mb : PySem.Str → Option Value) (news : List (Addr × Obj)) (c0 c1 c2 c3 c4 c5 c6 c7 : Nat) (t : Tok) (hx : ∀ y ∈ [c0, c1, c2, c3, c4, c5, c6, c7], y < 128) :
    Clm w p loose mean mg mb news 89 2 [.str ⟨[c0, c1, c2, c3, c4, c5, c6, c7].toArray⟩ t] (fun t => .bytes [c0.toUInt8, c1.toUInt8, c2.toUInt8, c3.toUInt8, c4.toUInt8, c5.toUInt8, c6.toUInt8, c7.toUInt8].toArray t) := bfd_spec w p loose mean mg mb news c0 [c1, c2, c3, c4, c5, c6, c7] t hx (by simp)
section
variable {prog : Program} {w : World} {A : Around} {E : Value → Shared → Prop} {s : Shared} {Q : Value → Shared → Prop}
theorem r_encode8 {c0 c1 c2 c3 c4 c5 c6 c7 : Nat} {t t2 : Tok} (hx : ∀ y ∈ [c0, c1, c2, c3, c4, c5, c6, c7], y < 128) (h : Q (.bytes [c0.toUInt8, c1.toUInt8, c2.toUInt8, c3.toUInt8, c4.toUInt8, c5.toUInt8, c6.toUInt8, c7.toUInt8].toArray s.toks) { s with toks := s.toks + 1 }) :
    wpAny (model prog w) A (call (.builtin "str.encode") [.str ⟨[c0, c1, c2, c3, c4, c5, c6, c7].toArray⟩ t, .str (PySem.Str.ofString "ascii") t2]) Q E s := r_encode hx (by simp) h
theorem r_upper8 {c0 c1 c2 c3 c4 c5 c6 c7 : UInt8} {t : Tok} (h : Q (.bytes [Builtin.Bytes.toUpper c0, Builtin.Bytes.toUpper c1, Builtin.Bytes.toUpper c2, Builtin.Bytes.toUpper c3, Builtin.Bytes.toUpper c4, Builtin.Bytes.toUpper c5, Builtin.Bytes.toUpper c6, Builtin.Bytes.toUpper c7].toArray s.toks) { s with toks := s.toks + 1 }) :
    wpAny (model prog w) A (call (.builtin "bytes.upper") [.bytes [c0, c1, c2, c3, c4, c5, c6, c7].toArray t]) Q E s := r_upper (by simp) h
theorem r_hex4 {o0 o1 o2 o3 : UInt8} {t : Tok} (h : Q (.str ⟨[Builtin.Bytes.hexDigit (o0.toNat / 16), Builtin.Bytes.hexDigit (o0.toNat % 16), Builtin.Bytes.hexDigit (o1.toNat / 16), Builtin.Bytes.hexDigit (o1.toNat % 16), Builtin.Bytes.hexDigit (o2.toNat / 16), Builtin.Bytes.hexDigit (o2.toNat % 16), Builtin.Bytes.hexDigit (o3.toNat / 16), Builtin.Bytes.hexDigit (o3.toNat % 16)].toArray⟩ s.toks) { s with toks := s.toks + 1 }) :
    wpAny (model prog w) A (call (.builtin "bytes.hex") [.bytes [o0, o1, o2, o3].toArray t]) Q E s := r_hex (by simp) h
theorem hexDigit_lt (n : Nat) (h : n < 16) : Builtin.Bytes.hexDigit n < 128 := by
  have := (by decide : ∀ n : Fin 16, Builtin.Bytes.hexDigit n.val < 128) ⟨n, h⟩
  exact this
theorem hexDigit4 (o0 o1 o2 o3 : UInt8) : ∀ y ∈ [Builtin.Bytes.hexDigit (o0.toNat / 16), Builtin.Bytes.hexDigit (o0.toNat % 16), Builtin.Bytes.hexDigit (o1.toNat / 16), Builtin.Bytes.hexDigit (o1.toNat % 16), Builtin.Bytes.hexDigit (o2.toNat / 16), Builtin.Bytes.hexDigit (o2.toNat % 16), Builtin.Bytes.hexDigit (o3.toNat / 16), Builtin.Bytes.hexDigit (o3.toNat % 16)], y < 128 := by
  have e0 := o0.toNat_lt; have e1 := o1.toNat_lt; have e2 := o2.toNat_lt; have e3 := o3.toNat_lt
  simp only [List.forall_mem_cons, List.not_mem_nil, false_implies, implies_true, and_true]
  refine ⟨?_, ?_, ?_, ?_, ?_, ?_, ?_, ?_⟩ <;> (apply hexDigit_lt; omega)
theorem search8 {tp tf : Tok} {n : Nat} {c0 c1 c2 c3 c4 c5 c6 c7 : UInt8} {t : Tok} (hp : s.heap.get? 81 = some (patObj tp tf)) (hc : s.heap.get? 80 = some (codeTup n)) (hall : ∀ c ∈ [c0, c1, c2, c3, c4, c5, c6, c7], GreatHex c.toNat) (h : Q .none s) :
    wpAny (model prog w) A (call (.builtin "re.Pattern.search") [.ref 81, .bytes [c0, c1, c2, c3, c4, c5, c6, c7].toArray t]) Q E s := search_none hp hc (by simp) (by simp) hall h
theorem r_str8 {c0 c1 c2 c3 c4 c5 c6 c7 : UInt8} {g0 g1 g2 g3 g4 g5 g6 g7 : Nat} {t t2 : Tok} (e0 : c0.toNat = g0) (e1 : c1.toNat = g1) (e2 : c2.toNat = g2) (e3 : c3.toNat = g3) (e4 : c4.toNat = g4) (e5 : c5.toNat = g5) (e6 : c6.toNat = g6) (e7 : c7.toNat = g7) (h : ∀ c ∈ [c0, c1, c2, c3, c4, c5, c6, c7], c.toNat < 128) (hq : ∀ tk tk', Q (.str ⟨[g0, g1, g2, g3, g4, g5, g6, g7].toArray⟩ tk) { s with toks := tk' }) :
    wpAny (model prog w) A (call (.type "str") [.bytes [c0, c1, c2, c3, c4, c5, c6, c7].toArray t, .str (PySem.Str.ofString "ascii") t2]) Q E s := by
  subst e0 e1 e2 e3 e4 e5 e6 e7
  exact r_strAscii h (by simp) hq
end
end Mine
end
theorem Mine.rs_Q1 : True := by (w_top off; k_with_none; trivial)

section
open PySem PySem.W PyProof.Rows
set_option Elab.async false
set_option maxRecDepth 100000
set_option linter.unusedVariables false
namespace Mine

theorem kwC5_1 : True := by
  k_with_none
  (k_with "storeName" => (k_here; (try dsimp only); k_dflt (refine' storeX_P ?F ?N ?_ ?a ?b; (case F => k_asm); (case N => k_asm); (case a => rfl); (case b => rfl); k_whole); intro m' h' tk' F' N'; (try k_sweep)))
  (k_with "storeName" => (k_here; (try dsimp only); (with_reducible show wpAny _ _ (storeName _ _ (Value.int _ (HAdd.hAdd _ _))) _ _ _); k_dflt (refine' storeX_I ?F ?N ?_ ?a ?b; (case F => k_asm); (case N => k_asm); (case a => rfl); (case b => rfl); k_whole); intro t' m' h' tk' F' N'; (try k_sweep)))
  (k_with "storeName" => (k_here; (try dsimp only); (with_reducible show wpAny _ _ (storeName _ _ (Value.str _ (HAdd.hAdd _ _))) _ _ _); k_dflt (refine' storeX_S ?F ?N ?_ ?a ?b; (case F => k_asm); (case N => k_asm); (case a => rfl); (case b => rfl); k_whole); intro t' m' h' tk' F' N'; (try k_sweep)))
  (k_with "call type:type" => (k_here; (with_reducible show wpAny _ _ (call (Value.type "type") [Value.bytes _ _]) _ _ _); refine r_type_bytes ?_))
  (k_with "getMethod str" => (k_here; (with_reducible refine r_gm_encode ?_)))
  (k_with "getMethod bytes" => (k_here; (with_reducible refine r_gm_upper ?_)))
  (k_with "getMethod bytes" => (k_here; (with_reducible refine r_gm_hex ?_)))
  (k_with "getMethod ref" => (k_here; (with_reducible show wpAny _ _ (getMethod (Value.ref 81) _ _) _ _ _); refine' r_gm_search ?q1 ?_; (case q1 => kto_obj); k_whole))
  (k_with "call builtin:re.Pattern.search" => (k_here; refine' search8 ?q1 ?q2 ?q3 ?_; (case q1 => kto_obj); (case q2 => kto_obj); (case q3 => assumption); k_whole))
  (k_with "call builtin:str.encode" => (k_here; (with_reducible refine' r_encode8 ?q1 ?_; (case q1 => first | assumption | exact hexDigit4 _ _ _ _))))
  (k_with "call builtin:bytes.upper" => (k_here; (with_reducible refine r_upper8 ?_)))
  (k_with "call builtin:bytes.hex" => (k_here; (with_reducible refine r_hex4 ?_)))
  (k_with "call ref" => (k_here; (with_reducible show wpAny _ _ (call (Value.ref 116) _) _ _ _); (refine' buffer_spec _ _ _ _ _ _ _ _ _  _ _ _ _ _ _ _ _ _ _ _ _ _ _ _ _ _ ?k1 ?k2 ?k3 ?k4 ?k5 ?kK ?kz ?kd ?ku ?_; (case k1 => k_asm); (case k2 => k_asm); (case k3 => k_asm); (case k4 => k_asm); (case k5 => k_asm); (case kK => first | exact rfl | assumption); (case kz => assumption); (case kd => first | omega | ktr_room); (case ku => first | omega | ktr_units); intro t9 h9 tk9 F9 N9; (try dsimp only); (try k_fold))))
  trivial
set_option maxHeartbeats 4000000 in
theorem b2ahex_spec (w : World) (p : Program) (loose : List PySem.Str) (mean : ExcName → Option Value) (mg mb : PySem.Str → Option Value) (news : List (Addr × Obj)) (o0 o1 o2 o3 : UInt8) (t : Tok) :
    Clm w p loose mean mg mb news 155 4 [.bytes [o0, o1, o2, o3].toArray t] (fun t => .bytes [(Builtin.Bytes.hexDigit (o0.toNat / 16)).toUInt8, (Builtin.Bytes.hexDigit (o0.toNat % 16)).toUInt8, (Builtin.Bytes.hexDigit (o1.toNat / 16)).toUInt8, (Builtin.Bytes.hexDigit (o1.toNat % 16)).toUInt8, (Builtin.Bytes.hexDigit (o2.toNat / 16)).toUInt8, (Builtin.Bytes.hexDigit (o2.toNat % 16)).toUInt8, (Builtin.Bytes.hexDigit (o3.toNat / 16)).toUInt8, (Builtin.Bytes.hexDigit (o3.toNat % 16)).toUInt8].toArray t) := by
  dsimp only [Clm]
  k_fill
  intros
  rename_i hret
  refine wpAny_call ?_
  k_dflt (refine' code_def ?k1 ?k2 ?k3 ?k4 ?k5 ?kA ?kF ?kK ?k6 ?k7 ?k8 ?k9 ?kB ?_ ?c2 ?c3 ?c4 ?c5; (case kA => exact rfl); (case kF => exact rfl); (case kK => assumption); (case k1 => k_asm); (case k2 => k_asm); (case k3 => k_asm); (case k4 => k_asm); (case k5 => k_asm); (case k6 => k_is); (case k7 => k_is); (case k8 => ktr_room); (case k9 => first | exact BindsTo.of_eq rfl | exact binds_K (by k_in) rfl (by k_is) rfl rfl rfl | fail "no rule for these arguments"); (case c5 => decide); (case kB => exact locs rfl); (case c2 => exact rfl); (case c3 => exact rfl); (case c4 => exact rfl); k_whole; intro g' L' h' FG' F' N' B' X' T'; (try dsimp only); (try k_lift B'); (try k_fold))
  k_steps
  all_goals (first | (refine hret _ _ _ ?e2 ?e3; (case e2 => k_asm); (case e3 => first | k_asm | (refine' cb_drop ?cbN ?cbS; (case cbN => assumption); (case cbS => k_sub)))) | cb_end hret | w_report)

theorem kwC5_2 : True := by
  (k_with "call ref" => (k_here; (with_reducible show wpAny _ _ (call (Value.ref 155) _) _ _ _); (refine' b2ahex_spec _ _ _ _ _ _ _ _ _ _ _ _  _ _ _ _ _ _ _ _ _ _ _ _ _ _ _ _ _ ?k1 ?k2 ?k3 ?k4 ?k5 ?kK ?kz ?kd ?ku ?_; (case k1 => k_asm); (case k2 => k_asm); (case k3 => k_asm); (case k4 => k_asm); (case k5 => k_asm); (case kK => first | exact rfl | assumption); (case kz => assumption); (case kd => first | omega | ktr_room); (case ku => first | omega | ktr_units); intro t9 h9 tk9 F9 N9; (try dsimp only); (try k_fold))))
  trivial
set_option maxHeartbeats 4000000 in
theorem b16enc_spec (w : World) (p : Program) (loose : List PySem.Str) (mean : ExcName → Option Value) (mg mb : PySem.Str → Option Value) (news : List (Addr × Obj)) (o0 o1 o2 o3 : UInt8) (t : Tok) :
    Clm w p loose mean mg mb news 192 6 [.bytes [o0, o1, o2, o3].toArray t] (fun t => .bytes [Builtin.Bytes.toUpper (Builtin.Bytes.hexDigit (o0.toNat / 16)).toUInt8, Builtin.Bytes.toUpper (Builtin.Bytes.hexDigit (o0.toNat % 16)).toUInt8, Builtin.Bytes.toUpper (Builtin.Bytes.hexDigit (o1.toNat / 16)).toUInt8, Builtin.Bytes.toUpper (Builtin.Bytes.hexDigit (o1.toNat % 16)).toUInt8, Builtin.Bytes.toUpper (Builtin.Bytes.hexDigit (o2.toNat / 16)).toUInt8, Builtin.Bytes.toUpper (Builtin.Bytes.hexDigit (o2.toNat % 16)).toUInt8, Builtin.Bytes.toUpper (Builtin.Bytes.hexDigit (o3.toNat / 16)).toUInt8, Builtin.Bytes.toUpper (Builtin.Bytes.hexDigit (o3.toNat % 16)).toUInt8].toArray t) := by
  dsimp only [Clm]
  k_fill
  intros
  rename_i hret
  refine wpAny_call ?_
  k_dflt cell_enter
  k_steps
  all_goals (first | (refine hret _ _ _ ?e2 ?e3; (case e2 => k_asm); (case e3 => first | k_asm | (refine' cb_drop ?cbN ?cbS; (case cbN => assumption); (case cbS => k_sub)))) | cb_end hret | w_report)

theorem kwC5_3 : True := by
  (k_with "call ref" => (k_here; (with_reducible show wpAny _ _ (call (Value.ref 89) _) _ _ _); (refine' bfd8 _ _ _ _ _ _ _ _ _ _ _ _ _ _ _ _ ?q0 _ _ _ _ _ _ _ _ _ _ _ _ _ _ _ _ _ ?k1 ?k2 ?k3 ?k4 ?k5 ?kK ?kz ?kd ?ku ?_; (case q0 => assumption); (case k1 => k_asm); (case k2 => k_asm); (case k3 => k_asm); (case k4 => k_asm); (case k5 => k_asm); (case kK => first | exact rfl | assumption); (case kz => assumption); (case kd => first | omega | ktr_room); (case ku => first | omega | ktr_units); intro t9 h9 tk9 F9 N9; (try dsimp only); (try k_fold))))
  (k_with "call ref" => (k_here; (with_reducible show wpAny _ _ (call (Value.ref 169) _) _ _ _); (refine' a2bhex_spec _ _ _ _ _ _ _ _ _ _ _ _ _ _ _ _ _ _ _ _ _ _ _ _ ?q0 ?q1 ?q2 ?q3 ?q4 ?q5 ?q6 ?q7 ?q8 ?q9 ?q10 ?q11 ?q12 ?q13 ?q14 ?q15 _ _ _ _ _ _ _ _ _ _ _ _ _ _ _ _ _ ?k1 ?k2 ?k3 ?k4 ?k5 ?kK ?kz ?kd ?ku ?_; (case q0 => assumption); (case q1 => assumption); (case q2 => assumption); (case q3 => assumption); (case q4 => assumption); (case q5 => assumption); (case q6 => assumption); (case q7 => assumption); (case q8 => assumption); (case q9 => assumption); (case q10 => assumption); (case q11 => assumption); (case q12 => assumption); (case q13 => assumption); (case q14 => assumption); (case q15 => assumption); (case k1 => k_asm); (case k2 => k_asm); (case k3 => k_asm); (case k4 => k_asm); (case k5 => k_asm); (case kK => first | exact rfl | assumption); (case kz => assumption); (case kd => first | omega | ktr_room); (case ku => first | omega | ktr_units); intro t9 h9 tk9 F9 N9; (try dsimp only); (try k_fold))))
  trivial
set_option maxHeartbeats 4000000 in
theorem b16dec_spec (w : World) (p : Program) (loose : List PySem.Str) (mean : ExcName → Option Value) (mg mb : PySem.Str → Option Value) (news : List (Addr × Obj)) (f0 f1 f2 f3 f4 f5 f6 f7 : Nat) (d0 d1 d2 d3 d4 d5 d6 d7 : Int) (B : Array UInt8) (t : Tok) (hx : ∀ y ∈ [f0, f1, f2, f3, f4, f5, f6, f7], y < 128) (hg : ∀ c ∈ [Builtin.Bytes.toUpper f0.toUInt8, Builtin.Bytes.toUpper f1.toUInt8, Builtin.Bytes.toUpper f2.toUInt8, Builtin.Bytes.toUpper f3.toUInt8, Builtin.Bytes.toUpper f4.toUInt8, Builtin.Bytes.toUpper f5.toUInt8, Builtin.Bytes.toUpper f6.toUInt8, Builtin.Bytes.toUpper f7.toUInt8], GreatHex c.toNat) (h0 : hexValue ((Builtin.Bytes.toUpper f0.toUInt8).toNat : Int) = d0) (b0 : 0 ≤ d0 ∧ d0 < 16) (h1 : hexValue ((Builtin.Bytes.toUpper f1.toUInt8).toNat : Int) = d1) (b1 : 0 ≤ d1 ∧ d1 < 16) (h2 : hexValue ((Builtin.Bytes.toUpper f2.toUInt8).toNat : Int) = d2) (b2 : 0 ≤ d2 ∧ d2 < 16) (h3 : hexValue ((Builtin.Bytes.toUpper f3.toUInt8).toNat : Int) = d3) (b3 : 0 ≤ d3 ∧ d3 < 16) (h4 : hexValue ((Builtin.Bytes.toUpper f4.toUInt8).toNat : Int) = d4) (b4 : 0 ≤ d4 ∧ d4 < 16) (h5 : hexValue ((Builtin.Bytes.toUpper f5.toUInt8).toNat : Int) = d5) (b5 : 0 ≤ d5 ∧ d5 < 16) (h6 : hexValue ((Builtin.Bytes.toUpper f6.toUInt8).toNat : Int) = d6) (b6 : 0 ≤ d6 ∧ d6 < 16) (h7 : hexValue ((Builtin.Bytes.toUpper f7.toUInt8).toNat : Int) = d7) (b7 : 0 ≤ d7 ∧ d7 < 16) (hB : byteArr [d0 * 2 ^ Int.toNat 4 + d1, d2 * 2 ^ Int.toNat 4 + d3, d4 * 2 ^ Int.toNat 4 + d5, d6 * 2 ^ Int.toNat 4 + d7] = B):
    Clm w p loose mean mg mb news 200 6 [.str ⟨[f0, f1, f2, f3, f4, f5, f6, f7].toArray⟩ t, .bool true] (fun t => .bytes B t) := by
  dsimp only [Clm]
  k_fill
  intros
  rename_i hret
  refine wpAny_call ?_
  k_dflt (refine' code_def ?k1 ?k2 ?k3 ?k4 ?k5 ?kA ?kF ?kK ?k6 ?k7 ?k8 ?k9 ?kB ?_ ?c2 ?c3 ?c4 ?c5; (case kA => exact rfl); (case kF => exact rfl); (case kK => assumption); (case k1 => k_asm); (case k2 => k_asm); (case k3 => k_asm); (case k4 => k_asm); (case k5 => k_asm); (case k6 => k_is); (case k7 => k_is); (case k8 => ktr_room); (case k9 => first | exact BindsTo.of_eq rfl | exact binds_K (by k_in) rfl (by k_is) rfl rfl rfl | fail "no rule for these arguments"); (case c5 => decide); (case kB => exact locs rfl); (case c2 => exact rfl); (case c3 => exact rfl); (case c4 => exact rfl); k_whole; intro g' L' h' FG' F' N' B' X' T'; (try dsimp only); (try k_lift B'); (try k_fold))
  k_steps
  all_goals (rw [hB])
  all_goals (first | (refine hret _ _ _ ?e2 ?e3; (case e2 => k_asm); (case e3 => first | k_asm | (refine' cb_drop ?cbN ?cbS; (case cbN => assumption); (case cbS => k_sub)))) | cb_end hret | w_report)

end Mine
end
theorem Mine.rs_C5 : True := by (w_top off; k_with_none; trivial)

section
open PySem PySem.W PyProof.Rows PySem.Calls PySem.Spec
set_option Elab.async false
set_option maxRecDepth 100000
set_option linter.unusedVariables false
namespace Mine
/-- a thing that is gone through by an iterator of its own, which no heap but that cell holds -/
def Itr (prog : Program) (w : World) (A : Around) (xv : Value) (s₁ : Shared) (n : Nat) (P : Nat → Value → Prop) : Prop :=
  ∃ (o : Obj) (St : Addr → Nat → Heap → Prop), (∀ (Q E : Value → Shared → Prop), Q (.ref s₁.heap.objs.size) { s₁ with heap := s₁.heap.push o } → wpAny (model prog w) A (pyIter xv) Q E s₁) ∧
    (∀ I, Walks prog w A I [I] [I] n P (St I)) ∧ (∀ I h, h.get? I = some o → St I 0 h) ∧ (∀ I i h, St I i h → ∃ o, h.get? I = some o) ∧
    (∀ I i (h h' : Heap) o, St I i h → h.get? I = some o → h'.get? I = some o → St I i h') ∧ o.isFreed = false
section
variable {prog : Program} {w : World} {A : Around} {E : Value → Shared → Prop} {s : Shared} {h₀ : Heap} {L : Addr} {m : PySem.Str → Option Value} {env : Env}
theorem Itr.bytes {b : Array UInt8} {t : Tok} (hh : A.handled = none) : Itr prog w A (.bytes b t) s b.size (fun i v => ∃ c u, b[i]? = some c ∧ v = .int (c.toNat : Int) u) :=
  ⟨_, fun I i h => KBw.IsBytesIter h I b t i, fun Q E h => KBw.pyIter_bytes h, fun I => KBw.walks hh I b t, fun I h e => ⟨_, e, rfl, rfl⟩, fun I i h ⟨o, e, _⟩ => ⟨o, e⟩,
    fun I i h h' o ⟨o', e', r⟩ e1 e2 => by rw [e1] at e'; cases e'; exact ⟨o, e2, r⟩, rfl⟩
theorem Itr.ascii {x : PySem.Str} {t : Tok} (hh : A.handled = none) (ha : x.cps.all (· < 128) = true) : Itr prog w A (.str x t) s x.cps.size (SignAt x) :=
  ⟨_, fun I i h => h.IsStrIter I "str_ascii_iterator" x t i, fun Q E h => wpAny_pyIter_ascii ha h, fun I => Walks.strAscii hh I x t, fun I h e => ⟨_, e, rfl, rfl⟩, fun I i h ⟨o, e, _⟩ => ⟨o, e⟩,
    fun I i h h' o ⟨o', e', r⟩ e1 e2 => by rw [e1] at e'; cases e'; exact ⟨o, e2, r⟩, rfl⟩
theorem Itr.range {r : Addr} {a b c : Int} {t u v : Tok} {n : Nat} (hh : A.handled = none) (hr : IsRange s.heap r a b c t u v) (hsm : Builtin.Range.small a b c = true) (hn : Builtin.Range.rangeSize a b c = ((n : Nat) : Int)) :
    Itr prog w A (.ref r) s n (fun i v => ∃ t, v = .int (a + i * c) t) :=
  ⟨_, fun I i h => IsRangeIter h I (a + (i : Nat) * c) ((n : Int) - (i : Nat)) c, fun Q E h => wpAny_pyIter_range hr hsm h, fun I => Walks.range hh I a c n, fun I h e => by show IsRangeIter _ _ _ _ _; rw [hn] at e; simpa using e, fun I i h e => ⟨_, e⟩,
    fun I i h h' o e' e1 e2 => by have e'' : h.get? I = some _ := e'; rw [e1] at e''; show h'.get? I = some _; rw [e2]; exact e'', rfl⟩
theorem Itr.weak {xv : Value} {n : Nat} {P P' : Nat → Value → Prop} (h : Itr prog w A xv s n P) (k : ∀ i v, P i v → P' i v) : Itr prog w A xv s n P' :=
  let ⟨o, St, h1, h2, r⟩ := h
  ⟨o, St, h1, fun I => { sub := (h2 I).sub, frame := (h2 I).frame, done := (h2 I).done, self := (h2 I).self, item := fun i s Q E hi st hQ => (h2 I).item i s Q E hi st fun v h' tk hP => hQ v h' tk (k _ _ hP) }, r⟩
def SrcX (prog : Program) (w : World) (A : Around) (h₀ : Heap) (L : Addr) (m : PySem.Str → Option Value) (env : Env) (elt : Expr) (x : PySem.Str) (scope : Scope) (cl : List (PySem.Str × Addr)) (Fin : Shared → List Value → List (Addr × Obj) → Prop) (xv : Value) (s₁ : Shared) : Prop :=
  ∃ n P news, Fr h₀ L s₁.heap m ∧ News h₀ L s₁.heap news ∧ n ≤ sizeLine ∧ Itr prog w A xv s₁ n P ∧
    ∀ g, LCg.CompRest prog w A h₀ L m env elt x scope cl { s₁ with heap := g } (fun _ => True) P (Fin { s₁ with heap := g }) n 0 [] news
theorem ListComp_X {elt iter : Expr} {x : PySem.Str} {px : Pos} {scope : Scope} {cl : List (PySem.Str × Addr)} {pos : Pos} {Q : Value → Shared → Prop} (F₀ : Fr h₀ L s.heap m)
    (hclos : closureFor scope env = pure cl) (hcell : ∀ y ∈ scope.names, y.2 ≠ .cell) (hkind : scope.kind = .function)
    (hnames : ∀ y ∈ scope.names, y.2 = .local → scope.names.lookup y.1 = some .local) (hx : scope.names.lookup x = some .local)
    (h : wpAny (model prog w) A (eval iter env) (SrcX prog w A h₀ L m env elt x scope cl (fun s₂ => LCg.FinE h₀ L m s₂ Q)) E s)
    (hs : ∀ x, foldedSetIterable iter env x = pure x := by intro _; rfl) :
    wpAny (model prog w) A (eval (.ListComp elt [⟨.Name x px, iter, [], 0⟩] scope pos) env) Q E s := by
  rw [eval_ListComp]
  refine wpAny_comprehension_free (use := none) rfl hs hclos hkind hnames (wpAny_mono h (fun xv s₁ h₁ => ?_) fun _ _ e => e)
  obtain ⟨n, P, news, F, N, hsz, ⟨o, St, h1, h2, h3, h4, h5, h6⟩, R⟩ := h₁
  refine h1 _ _ ?_
  refine LCg.block_U (St := St s₁.heap.objs.size) (h2 _) hsz (fun i h st => h4 _ _ _ st) (fun i h h' o nw st e e' _ _ _ => h5 _ _ _ _ _ st e e') hcell hkind hx (h3 _ _ (Heap.get?_push_size _ h6)) (fun b hb => ?_)
      (F.keeps fun _ _ e => Heap.get?_push_of_some _ e) (N.grown fun _ _ e => Heap.get?_push_of_some _ e) (Nat.ne_of_lt F.ns.lt) (next_is_new F) (fun p hp => Nat.ne_of_lt (Heap.lt_size (N p hp).1)) trivial (R _) ?_
  · rw [List.mem_singleton.mp hb]
    show s₁.heap.objs.size < (s₁.heap.push _).objs.size
    rw [Heap.size_push]; exact Nat.lt_succ_self _
  · intro D C h tk m' ys news' F' N' o1 hn hC₀ hD₀ hCL hDL hCD offC fin
    refine ⟨m', hn, fun h'' hs'' => fin D h'' tk (F'.change hs'' hCL hC₀) (fun p hp => ?_) o1⟩
    refine ⟨hs''.extBut _ _ ?_ (N' p hp).1, (N' p hp).2⟩
    rcases List.mem_cons.mp hp with rfl | hp
    · exact Ne.symm hCD
    · exact offC p hp
theorem SrcX.bytes4 {elt : Expr} {x : PySem.Str} {scope : Scope} {cl : List (PySem.Str × Addr)} {Fin : Shared → List Value → List (Addr × Obj) → Prop} {o0 o1 o2 o3 : UInt8} {t : Tok} {news : List (Addr × Obj)} {s₁ : Shared}
    (hh : A.handled = none) (F : Fr h₀ L s₁.heap m) (N : News h₀ L s₁.heap news)
    (h : ∀ g, LCg.CompRest prog w A h₀ L m env elt x scope cl { s₁ with heap := g } (fun _ => True) (fun i v => ∃ u, v = .int ([(o0.toNat : Int), (o1.toNat : Int), (o2.toNat : Int), (o3.toNat : Int)].getD i 0) u) (Fin { s₁ with heap := g }) 4 0 [] news) :
    SrcX prog w A h₀ L m env elt x scope cl Fin (.bytes [o0, o1, o2, o3].toArray t) s₁ := ⟨_, _, news, F, N, Nat.le_of_ble_eq_true rfl, (Itr.bytes hh).weak (fun i v ⟨c, u, e, q⟩ => ⟨u, by subst q; match i, e with | 0, e => cases e; rfl | 1, e => cases e; rfl | 2, e => cases e; rfl | 3, e => cases e; rfl⟩), h⟩
theorem SrcX.range {elt : Expr} {x : PySem.Str} {scope : Scope} {cl : List (PySem.Str × Addr)} {Fin : Shared → List Value → List (Addr × Obj) → Prop} {r : Addr} {a b c : Int} {t u v : Tok} {n : Nat} {news : List (Addr × Obj)} {s₁ : Shared}
    (hh : A.handled = none) (F : Fr h₀ L s₁.heap m) (N : News h₀ L s₁.heap news) (hr : IsRange s₁.heap r a b c t u v) (hsm : Builtin.Range.small a b c = true) (hn : Builtin.Range.rangeSize a b c = ((n : Nat) : Int)) (hsz : n ≤ sizeLine)
    (h : ∀ g, LCg.CompRest prog w A h₀ L m env elt x scope cl { s₁ with heap := g } (fun _ => True) (fun i v => ∃ t, v = .int (a + i * c) t) (Fin { s₁ with heap := g }) n 0 [] news) :
    SrcX prog w A h₀ L m env elt x scope cl Fin (.ref r) s₁ := ⟨_, _, news, F, N, hsz, Itr.range hh hr hsm hn, h⟩
end
end Mine
end
theorem Mine.rs_L1 : True := by (w_top off; k_with_none; trivial)

section
open PySem PySem.W PyProof.Rows PySem.Calls PySem.Spec
set_option Elab.async false
set_option maxRecDepth 100000
set_option linter.unusedVariables false
namespace Mine
/-- the great figure of a number below sixteen -/
def upFig (n : Nat) : Nat := if n < 10 then n + 48 else n + 55
abbrev tx (l : List Nat) : PySem.Str := ⟨l.toArray⟩
theorem item_fig {i : Int} (h0 : 0 ≤ i) (h1 : i < 16) : PySem.Txt.item (PySem.Str.ofString "0123456789ABCDEF") i = ⟨[upFig i.toNat].toArray⟩ := by
  obtain ⟨n, rfl⟩ := Int.eq_ofNat_of_zero_le h0
  have hn : n < 16 := by omega
  have := (by decide +kernel : ∀ n : Fin 16, PySem.Txt.item (PySem.Str.ofString "0123456789ABCDEF") (n.val : Int) = ⟨[upFig (n.val : Int).toNat].toArray⟩) ⟨n, hn⟩
  exact this
theorem fits_small {i : Int} (h0 : -1000000 ≤ i) (h1 : i < 1000000) : fitsSsize i = true := by
  unfold fitsSsize; simp; omega
section
variable {prog : Program} {w : World} {A : Around} {E : Value → Shared → Prop} {s : Shared} {Q : Value → Shared → Prop} {value slice : Expr}
theorem r_item {x : PySem.Str} {t u : Tok} {i : Int} {y : PySem.Str} (h0 : 0 ≤ i) (h1 : i < (x.length : Int)) (hl : x.length ≤ 1000) (he : PySem.Txt.item x i = y) (h : Q (.str y s.toks) { s with toks := s.toks + 1 })
    (hs : subscripted slice false (.str x t) (.int i u) = operate [.str x t, .int i u] (getItem (.str x t) (.int i u)) := by with_unfolding_all rfl)
    (ht : ∀ r, letTemporaryGo value (.str x t) r = pure () := by intro _; with_unfolding_all rfl) :
    wpAny (model prog w) A (subscriptTail value slice (.str x t) (.int i u)) Q E s := by
  subst he
  exact item_str (fits_small (by omega) (by omega)) (by omega) h1 (fun _ => h) hs ht
theorem r_figD {o : UInt8} {t u : Tok} (h : Q (.str ⟨[upFig (o.toNat / 16)].toArray⟩ s.toks) { s with toks := s.toks + 1 })
    (hs : subscripted slice false (.str (PySem.Str.ofString "0123456789ABCDEF") t) (.int ((o.toNat : Int).fdiv 16) u) = operate [.str (PySem.Str.ofString "0123456789ABCDEF") t, .int ((o.toNat : Int).fdiv 16) u] (getItem (.str (PySem.Str.ofString "0123456789ABCDEF") t) (.int ((o.toNat : Int).fdiv 16) u)) := by with_unfolding_all rfl)
    (ht : ∀ r, letTemporaryGo value (.str (PySem.Str.ofString "0123456789ABCDEF") t) r = pure () := by intro _; with_unfolding_all rfl) :
    wpAny (model prog w) A (subscriptTail value slice (.str (PySem.Str.ofString "0123456789ABCDEF") t) (.int ((o.toNat : Int).fdiv 16) u)) Q E s := by
  have ho := o.toNat_lt
  have e : (o.toNat : Int).fdiv 16 = ((o.toNat / 16 : Nat) : Int) := by rw [Int.fdiv_eq_ediv_of_nonneg _ (by decide)]; omega
  refine r_item ?_ ?_ (by decide +kernel) ?_ h hs ht
  · omega
  · show _ < (16 : Int); omega
  · rw [item_fig (by omega) (by omega)]; rw [e]; rfl
theorem r_figM {o : UInt8} {t u : Tok} (h : Q (.str ⟨[upFig (o.toNat % 16)].toArray⟩ s.toks) { s with toks := s.toks + 1 })
    (hs : subscripted slice false (.str (PySem.Str.ofString "0123456789ABCDEF") t) (.int ((o.toNat : Int).fmod 16) u) = operate [.str (PySem.Str.ofString "0123456789ABCDEF") t, .int ((o.toNat : Int).fmod 16) u] (getItem (.str (PySem.Str.ofString "0123456789ABCDEF") t) (.int ((o.toNat : Int).fmod 16) u)) := by with_unfolding_all rfl)
    (ht : ∀ r, letTemporaryGo value (.str (PySem.Str.ofString "0123456789ABCDEF") t) r = pure () := by intro _; with_unfolding_all rfl) :
    wpAny (model prog w) A (subscriptTail value slice (.str (PySem.Str.ofString "0123456789ABCDEF") t) (.int ((o.toNat : Int).fmod 16) u)) Q E s := by
  have ho := o.toNat_lt
  have e : (o.toNat : Int).fmod 16 = ((o.toNat % 16 : Nat) : Int) := by rw [Int.fmod_eq_emod_of_nonneg _ (by decide)]; omega
  refine r_item ?_ ?_ (by decide +kernel) ?_ h hs ht
  · omega
  · show _ < (16 : Int); omega
  · rw [item_fig (by omega) (by omega)]; rw [e]; rfl
theorem r_cat {x y z : PySem.Str} {t u : Tok} (hl : x.length ≤ 1000 ∧ y.length ≤ 1000) (e : x ++ y = z) (h : ∀ t' k, Q (.str z t') { s with toks := k }) : wpAny (model prog w) A (binaryOp .Add (.str x t) (.str y u)) Q E s := by
  subst e
  exact KXadd.add hl.1 hl.2 (by decide) fun t' k _ => h t' k
theorem r_cat11 {a b : Nat} {t u : Tok} (h : ∀ t' k, Q (.str ⟨[a, b].toArray⟩ t') { s with toks := k }) : wpAny (model prog w) A (binaryOp .Add (.str ⟨[a].toArray⟩ t) (.str ⟨[b].toArray⟩ u)) Q E s :=
  r_cat ⟨Nat.le_of_ble_eq_true rfl, Nat.le_of_ble_eq_true rfl⟩ rfl h
theorem join2222 {a b c d a' b' c' d' : Nat} : PySem.Txt.join (PySem.Str.ofString "") [⟨[a, a'].toArray⟩, ⟨[b, b'].toArray⟩, ⟨[c, c'].toArray⟩, ⟨[d, d'].toArray⟩] = ⟨[a, a', b, b', c, c', d, d'].toArray⟩ := by
  with_unfolding_all rfl
theorem r_join2222 {h₀ : Heap} {L D : Addr} {news : List (Addr × Obj)} {a b c d a' b' c' d' : Nat} {t t0 t1 t2 t3 : Tok} (N : News h₀ L s.heap news)
    (hm : (D, LCg.lst [.str ⟨[a, a'].toArray⟩ t0, .str ⟨[b, b'].toArray⟩ t1, .str ⟨[c, c'].toArray⟩ t2, .str ⟨[d, d'].toArray⟩ t3]) ∈ news)
    (h : ∀ t' k, Q (.str ⟨[a, a', b, b', c, c', d, d'].toArray⟩ t') { s with toks := k }) : wpAny (model prog w) A (call (.builtin "str.join") [.str (PySem.Str.ofString "") t, .ref D]) Q E s := by
  refine join_listC (items := [.str ⟨[a, a'].toArray⟩ t0, .str ⟨[b, b'].toArray⟩ t1, .str ⟨[c, c'].toArray⟩ t2, .str ⟨[d, d'].toArray⟩ t3].toArray) (ys := [⟨[a, a'].toArray⟩, ⟨[b, b'].toArray⟩, ⟨[c, c'].toArray⟩, ⟨[d, d'].toArray⟩]) ⟨_, N.get hm, rfl, _, rfl⟩ ?_ (by decide +kernel) (Nat.le_of_ble_eq_true rfl) ?_
  · repeat constructor
  · rw [join2222]; exact h
end
end Mine
end
theorem Mine.rs_Q2 : True := by (w_top off; k_with_none; trivial)

section
open PySem PySem.W PyProof.Rows PySem.Calls PySem.Spec
set_option Elab.async false
set_option maxRecDepth 100000
set_option linter.unusedVariables false
namespace Mine
section
variable {prog : Program} {w : World} {A : Around} {E : Value → Shared → Prop} {s : Shared}
abbrev ByteAt (b : Array UInt8) : Nat → Value → Prop := fun i v => ∃ c u, b[i]? = some c ∧ v = .int (c.toNat : Int) u
theorem ext_bytes {R : Result → Shared → Prop} (hh : A.handled = none) (x : Array UInt8) (t : Tok) (S : Addr) (res : Value) (c₀ : Nat) (hS : s.heap.get? S = some { cls := .type "list", data := .seq #[] c₀ })
    (hR : ∀ h' tk acc' c', (∀ b o, b ≠ S → s.heap.get? b = some o → h'.get? b = some o) → h'.get? S = some { cls := .type "list", dict := none, data := .seq acc' c', slots := #[] } →
      ItemsOf (ByteAt x) acc' x.size → R (.ok (.ret res)) { s with heap := h', toks := tk }) (hn : x.size ≤ sizeLine) :
    wpAny (model prog w) A.in1 (Builtin.List.listExtendWith (.ref S) (.bytes x t) res)
      (fun fin s' => match fin with | .done f => R (.ok f) s' | .again c' => c'.quiet = true ∧ codeAny (model prog w) A c' R s') (fun e s' => R (.error e) s') s := by
  have hSI : S ≠ s.heap.objs.size := Nat.ne_of_lt (Heap.lt_size hS)
  have hSf : S ∉ [s.heap.objs.size] := fun hm => hSI (List.mem_singleton.mp hm)
  unfold Builtin.List.listExtendWith
  refine wpAny_bind (wpAny_typeOf (T := "bytes") (v := .bytes x t) rfl ?_)
  have h1 : Builtin.List.listSameRef (.ref S) (.bytes x t) = false := rfl
  have h2 : (Value.type "bytes" == Value.type "list") = false := by decide
  have h3 : (Value.type "bytes" == Value.type "tuple") = false := by decide
  simp only [h1, h2, h3, Bool.or_false, Bool.false_eq_true, if_false]
  refine wpAny_bind (KBw.pyIter_bytes ?_)
  refine wpAny_bind (wpAny_holding ?_)
  unfold Builtin.List.listLengthHint
  refine wpAny_bind (wpAny_specialOf (T := "bytes") (v := .bytes x t) rfl FB.slot_bytes_len.lookup ?_)
  wp_delta
  refine wpAny_bind (wpAny_isInstance (T := "bytes") (v := .bytes x t) (b := true) rfl (by rw [isSubtype_type]; kernel_rfl) ?_)
  show wpAny _ _ (typeOf (Value.bytes x t) >>= _) _ _ _
  refine wpAny_bind (wpAny_typeOf (T := "bytes") (v := .bytes x t) rfl ?_)
  refine wpAny_pure ?_
  rw [if_neg (by decide)]
  refine wpAny_pure ⟨plainId_quiet F.plain_extend_loop _, codeAny_extend_loopS (KBw.walks (A := A.in1) hh s.heap.objs.size x t).toS hn _ hSf _ x.size 0 _ _ _ rfl (Nat.zero_le _) ⟨_, Heap.get?_push_size _ rfl, rfl, rfl⟩ (Heap.get?_push_of_some _ hS) (ItemsOf.nil _) fun s' acc' c' hm hS' hacc => ?_⟩
  rw [Moved.eq_with hm]
  refine hR s'.heap s'.toks acc' c' (fun b ob hb e => hm.heap b ob (fun hmem => ?_) (Heap.get?_push_of_some _ e)) hS' hacc
  rcases List.mem_cons.mp hmem with e' | hmem
  · exact hb e'
  · exact absurd (Heap.lt_size e) (by rw [List.mem_singleton.mp hmem]; exact Nat.lt_irrefl _)
theorem init_bytes {R : Result → Shared → Prop} (hh : A.handled = none) (x : Array UInt8) (t : Tok) (S : Addr) (hS : s.heap.get? S = some { cls := .type "list", data := .seq #[] })
    (hR : ∀ h' tk acc' c', (∀ b o, b ≠ S → s.heap.get? b = some o → h'.get? b = some o) → h'.get? S = some { cls := .type "list", dict := none, data := .seq acc' c', slots := #[] } →
      ItemsOf (ByteAt x) acc' x.size → R (.ok (.ret .none)) { s with heap := h', toks := tk }) (hn : x.size ≤ sizeLine) :
    wpAny (model prog w) A.in1 (Builtin.«list.__init__» ⟨[.ref S, .bytes x t], []⟩)
      (fun fin s' => match fin with | .done f => R (.ok f) s' | .again c' => c'.quiet = true ∧ codeAny (model prog w) A c' R s') (fun e s' => R (.error e) s') s := by
  show wpAny _ _ (do let old ← Builtin.List.listItems (.ref S); Builtin.List.listUpdate (.ref S) (fun _ => #[]); letGo old.toList.reverse; Builtin.List.listExtendWith (.ref S) (.bytes x t) .none) _ _ s
  refine wpAny_bind ?_
  unfold Builtin.List.listItems
  refine wpAny_bind (wpAny_seqItems hS rfl (wpAny_pure ?_))
  show wpAny _ _ (updateSeq S (fun _ => #[]) >>= fun _ => letGo (#[] : Array Value).toList.reverse >>= fun _ => Builtin.List.listExtendWith (.ref S) (.bytes x t) .none) _ _ s
  refine wpAny_bind (wpAny_updateSeq hS rfl ?_)
  have hS₂ := Heap.get?_update_self (Obj.mapSeq (fun _ => (#[] : Array Value))) hS rfl
  have oth : ∀ b o, b ≠ S → s.heap.get? b = some o → (s.heap.update S (Obj.mapSeq (fun _ => (#[] : Array Value)))).get? b = some o :=
    fun b o hb e => (Heap.get?_update_other _ _ (Ne.symm hb)).trans e
  refine wpAny_bind (wpAny_letGo ?_)
  refine ext_bytes (hn := hn) hh x t S .none _ hS₂ fun h' tk acc' c' hk hS' hacc => ?_
  exact hR h' tk acc' c' (fun b o hb e => hk b o hb (oth b o hb e)) hS' hacc
theorem call_list_bytes {Q : Value → Shared → Prop} (hh : A.handled = none) (x : Array UInt8) (t : Tok)
    (hQ : ∀ h' tk acc' c', (∀ b o, s.heap.get? b = some o → h'.get? b = some o) →
      h'.get? s.heap.objs.size = some { cls := .type "list", dict := none, data := .seq acc' c', slots := #[] } → ItemsOf (ByteAt x) acc' x.size → Q (.ref s.heap.objs.size) { s with heap := h', toks := tk }) (hn : x.size ≤ sizeLine) :
    wpAny (model prog w) A (call (.type "list") [.bytes x t]) Q E s := by
  refine callType_codes (Q₁ := fun obj s₁ => obj = .ref s.heap.objs.size ∧ s₁ = { s with heap := s.heap.push { cls := .type "list", data := .seq #[] } }) F.called_list (F.typeCall_list_1 _) F.entry_list_init
    (code_list_new _ ⟨rfl, rfl⟩) fun obj s₁ h₁ => ?_
  obtain ⟨rfl, rfl⟩ := h₁
  have hS : (s.heap.push { cls := .type "list", data := .seq #[] }).get? s.heap.objs.size = some { cls := .type "list", data := .seq #[] } := Heap.get?_push_size _ rfl
  refine ⟨⟨_, hS, rfl⟩, F.args_list_init_2 _ _, init_bytes (A := A.in1) (hn := hn) hh x t _ hS fun h' tk acc' c' hk hS' hacc => ?_⟩
  exact ⟨rfl, hQ h' tk acc' c' (fun b o e => hk b o (Nat.ne_of_lt (Heap.lt_size e)) (Heap.get?_push_of_some _ e)) hS' hacc⟩
theorem r_list4 {Q : Value → Shared → Prop} {h₀ : Heap} {L : Addr} {m : PySem.Str → Option Value} {news : List (Addr × Obj)} {o0 o1 o2 o3 : UInt8} {t : Tok} (hh : A.handled = none) (F : Fr h₀ L s.heap m) (N : News h₀ L s.heap news)
    (h : ∀ D t0 t1 t2 t3 c h' tk, Fr h₀ L h' m → News h₀ L h' ((D, listOf [.int (o0.toNat : Int) t0, .int (o1.toNat : Int) t1, .int (o2.toNat : Int) t2, .int (o3.toNat : Int) t3].toArray c) :: news) → (∀ p ∈ news, p.1 < D) → Q (.ref D) { s with heap := h', toks := tk }) :
    wpAny (model prog w) A (call (.type "list") [.bytes [o0, o1, o2, o3].toArray t]) Q E s := by
  refine call_list_bytes hh _ t (fun h' tk acc c hk hD hI => ?_) (Nat.le_of_ble_eq_true rfl)
  obtain ⟨hz, hg⟩ := hI
  have hz4 : acc.size = 4 := hz
  have g : ∀ i (hi : i < 4), ∃ u, acc[i]? = some (.int (([o0, o1, o2, o3].getD i 0).toNat : Int) u) := fun i hi => by
    have hi' : i < acc.size := by omega
    obtain ⟨c, u, e1, e2⟩ := hg i acc[i] (by simp [hi'])
    refine ⟨u, ?_⟩
    rw [show acc[i]? = some acc[i] by simp [hi'], e2]
    match i, hi with
    | 0, _ => cases e1; rfl
    | 1, _ => cases e1; rfl
    | 2, _ => cases e1; rfl
    | 3, _ => cases e1; rfl
  obtain ⟨t0, g0⟩ := g 0 (by omega)
  obtain ⟨t1, g1⟩ := g 1 (by omega)
  obtain ⟨t2, g2⟩ := g 2 (by omega)
  obtain ⟨t3, g3⟩ := g 3 (by omega)
  have e : acc = [.int (o0.toNat : Int) t0, .int (o1.toNat : Int) t1, .int (o2.toNat : Int) t2, .int (o3.toNat : Int) t3].toArray := by
    apply Array.ext_getElem?
    intro i
    match i with
    | 0 => exact g0
    | 1 => exact g1
    | 2 => exact g2
    | 3 => exact g3
    | i + 4 => rw [Array.getElem?_eq_none (by omega)]; simp
  subst e
  exact h _ t0 t1 t2 t3 c h' tk (F.keeps hk) (news_pushed F N hk hD rfl) (fun p hp => Heap.lt_size (N p hp).1)
end
end Mine
end
theorem Mine.rs_R8 : True := by (w_top off; k_with_none; trivial)

section
open PySem PySem.W PyProof.Rows PySem.Calls PySem.Spec
set_option Elab.async false
set_option maxRecDepth 100000
set_option linter.unusedVariables false
namespace Mine
/-- the heap's first part -/
def cutAt (h : Heap) (n : Nat) : Heap := { h with objs := h.objs.extract 0 n }
theorem cutAt_get {h : Heap} {n : Nat} (b : Nat) : (cutAt h n).get? b = if b < n then h.get? b else none := by
  have e : (h.objs.extract 0 n)[b]? = if b < n then h.objs[b]? else none := by
    rw [Array.getElem?_extract]
    by_cases hb : b < n
    · by_cases hs : b < h.objs.size
      · have : b < min n h.objs.size - 0 := by omega
        rw [if_pos this, if_pos hb, Nat.zero_add]
      · have : ¬ b < min n h.objs.size - 0 := by omega
        rw [if_neg this, if_pos hb, Array.getElem?_eq_none (by omega)]
    · have : ¬ b < min n h.objs.size - 0 := by omega
      rw [if_neg this, if_neg hb]
  unfold Heap.get? cutAt
  dsimp only
  rw [e]
  by_cases hb : b < n
  · rw [if_pos hb, if_pos hb]
  · rw [if_neg hb, if_neg hb]
theorem cutAt_size {h : Heap} {n : Nat} (hn : n ≤ h.objs.size) : (cutAt h n).objs.size = n := by
  unfold cutAt; simp; omega
/-- what the caller keeps is told again at the end -/
def RN (h₀ : Heap) (L : Addr) (news : List (Addr × Obj)) (R : Result → Shared → Prop) (r : Result) (s' : Shared) : Prop := News h₀ L s'.heap news → R r s'
section
variable {A : Around} {base g h₁ h₀ : Heap} {outer : List Env} {L L' : Addr} {m m' : PySem.Str → Option Value} {cells news : List (Addr × Obj)} {K : Frag} {p : Program} {loose : List PySem.Str} {mean : ExcName → Option Value} {mg mb : PySem.Str → Option Value}
theorem rebase (F' : Fr g L' h₁ m') (N' : News g L' h₁ (cells ++ news)) (l : ∀ p ∈ news, p.1 < L') (hc : ∀ p ∈ cells, @LE.le Nat _ L' p.1) (B' : Below A base outer g) (X' : K.In g) (T' : Top p loose mean mg mb g) :
    ∃ g₂, Fr g₂ L' h₁ m' ∧ News g₂ L' h₁ cells ∧ Below A base outer g₂ ∧ K.In g₂ ∧ Top p loose mean mg mb g₂ ∧ (∀ b o, g.get? b = some o → g₂.get? b = some o) ∧
      ∀ R v s', LeaveK h₀ L m g₂ (RN h₀ L news R) v s' → LeaveK h₀ L m g R v s' := by
  have hL : L' < h₁.objs.size := F'.ns.lt
  have hsz : (cutAt h₁ L').objs.size = L' := cutAt_size (Nat.le_of_lt hL)
  have up : ∀ b o, g.get? b = some o → (cutAt h₁ L').get? b = some o := fun b o e => by
    rw [cutAt_get, if_pos (Nat.lt_of_lt_of_le (Heap.lt_size e) F'.above)]
    exact F'.keep b o e
  have dn : ∀ b o, (cutAt h₁ L').get? b = some o → h₁.get? b = some o := fun b o e => by
    rw [cutAt_get] at e
    split at e
    · exact e
    · cases e
  refine ⟨cutAt h₁ L', ⟨F'.ns, dn, Nat.le_of_eq hsz⟩, fun q hq => ?_, ⟨B'.stack, fun b o e => up b o (B'.stays b o e), B'.frames.of_keeps fun b o e _ => ⟨o, up b o e, rfl⟩⟩, X'.keeps up, T'.keeps up, up, ?_⟩
  · have z := N' q (List.mem_append_left _ hq)
    refine ⟨z.1, z.2.1, ?_⟩
    rw [cutAt_get, if_neg (Nat.not_lt.mpr (hc q hq))]
  · rintro R v s' ⟨L2, m2, news', F2, N2, k⟩
    have hL2 : L' ≤ L2 := by have := F2.above; rw [hsz] at this; exact this
    refine ⟨L2, m2, news' ++ news, ⟨F2.ns, fun b o e => F2.keep b o (up b o e), Nat.le_trans F'.above hL2⟩, fun q hq => ?_, fun a b => k a (fun q hq => b q (List.mem_append_left _ hq)) (fun q hq => b q (List.mem_append_right _ hq))⟩
    rcases List.mem_append.mp hq with hq | hq
    · refine ⟨(N2 q hq).1, (N2 q hq).2.1, ?_⟩
      cases e : g.get? q.1 with
      | none => rfl
      | some o => have := up _ _ e; rw [(N2 q hq).2.2] at this; cases this
    · have z := N' q (List.mem_append_right _ hq)
      refine ⟨F2.keep _ _ ?_, Nat.ne_of_lt (Nat.lt_of_lt_of_le (l q hq) hL2), z.2.2⟩
      rw [cutAt_get, if_pos (l q hq)]
      exact z.1
theorem enter_clean {M : Model} {A' : Around} {t : Sem Flow} {V : Flow → Value} {R : Result → Shared → Prop} {E : Value → Shared → Prop} {s : Shared} (F' : Fr g L' h₁ m') (N' : News g L' h₁ (cells ++ news)) (l : ∀ p ∈ news, p.1 < L') (hc : ∀ p ∈ cells, @LE.le Nat _ L' p.1) (FG : Fr h₀ L g m) (B' : Below A base outer g) (X' : K.In g) (T' : Top p loose mean mg mb g)
    (h : ∀ g₂, Fr h₀ L g₂ m → Fr g₂ L' h₁ m' → News g₂ L' h₁ cells → Below A base outer g₂ → K.In g₂ → Top p loose mean mg mb g₂ → wpAny M A' t (fun fl s' => LeaveK h₀ L m g₂ (RN h₀ L news R) (V fl) s') E s) :
    wpAny M A' t (fun fl s' => LeaveK h₀ L m g R (V fl) s') E s := by
  obtain ⟨g₂, F2, N2, B2, X2, T2, up, lv⟩ := rebase (h₀ := h₀) (L := L) (m := m) F' N' l hc B' X' T'
  exact wpAny_mono (h g₂ (FG.keeps up) F2 N2 B2 X2 T2) (fun fl s' x => lv _ _ _ x) fun _ _ x => x
end
end Mine
end
theorem Mine.rs_L2 : True := by (w_top off; k_with_none; trivial)

section
open PySem PySem.W PyProof.Rows PySem.Calls PySem.Spec
set_option Elab.async false
set_option maxRecDepth 100000
set_option linter.unusedVariables false
namespace Mine
/-- the letter of a number below sixty-four -/
def b64Sign (n : Nat) : Nat := if n < 26 then n + 65 else if n < 52 then n + 71 else if n < 62 then n - 4 else if n = 62 then 43 else 47
theorem item_b64 {i : Int} {n : Nat} (e : i = (n : Int)) (h : n < 64) : PySem.Txt.item (PySem.Str.ofString "ABCDEFGHIJKLMNOPQRSTUVWXYZabcdefghijklmnopqrstuvwxyz0123456789+/") i = ⟨[b64Sign n].toArray⟩ := by
  subst e
  have := (by decide +kernel : ∀ n : Fin 64, PySem.Txt.item (PySem.Str.ofString "ABCDEFGHIJKLMNOPQRSTUVWXYZabcdefghijklmnopqrstuvwxyz0123456789+/") (n.val : Int) = ⟨[b64Sign n.val].toArray⟩) ⟨n, h⟩
  exact this
theorem join6 {a b c d e f : Nat} : PySem.Txt.join (PySem.Str.ofString "") [⟨[a].toArray⟩, ⟨[b].toArray⟩, ⟨[c].toArray⟩, ⟨[d].toArray⟩, ⟨[e].toArray⟩, ⟨[f].toArray⟩] ++ PySem.Txt.mul (PySem.Str.ofString "=") 2 = ⟨[a, b, c, d, e, f, 61, 61].toArray⟩ := by
  with_unfolding_all rfl
theorem sixes_eq (o0 o1 o2 o3 : UInt8) : PySem.Txt.join (PySem.Str.ofString "") [PySem.Txt.item (PySem.Str.ofString "ABCDEFGHIJKLMNOPQRSTUVWXYZabcdefghijklmnopqrstuvwxyz0123456789+/") (Int.fmod (Int.fdiv ((((((0 * 256 + (o0.toNat : Int)) * 256 + (o1.toNat : Int)) * 256 + (o2.toNat : Int)) * 256 + (o3.toNat : Int)) * 256 + 0) * 256 + 0) ((64 : Int) ^ (Int.toNat 7))) 64), PySem.Txt.item (PySem.Str.ofString "ABCDEFGHIJKLMNOPQRSTUVWXYZabcdefghijklmnopqrstuvwxyz0123456789+/") (Int.fmod (Int.fdiv ((((((0 * 256 + (o0.toNat : Int)) * 256 + (o1.toNat : Int)) * 256 + (o2.toNat : Int)) * 256 + (o3.toNat : Int)) * 256 + 0) * 256 + 0) ((64 : Int) ^ (Int.toNat 6))) 64), PySem.Txt.item (PySem.Str.ofString "ABCDEFGHIJKLMNOPQRSTUVWXYZabcdefghijklmnopqrstuvwxyz0123456789+/") (Int.fmod (Int.fdiv ((((((0 * 256 + (o0.toNat : Int)) * 256 + (o1.toNat : Int)) * 256 + (o2.toNat : Int)) * 256 + (o3.toNat : Int)) * 256 + 0) * 256 + 0) ((64 : Int) ^ (Int.toNat 5))) 64), PySem.Txt.item (PySem.Str.ofString "ABCDEFGHIJKLMNOPQRSTUVWXYZabcdefghijklmnopqrstuvwxyz0123456789+/") (Int.fmod (Int.fdiv ((((((0 * 256 + (o0.toNat : Int)) * 256 + (o1.toNat : Int)) * 256 + (o2.toNat : Int)) * 256 + (o3.toNat : Int)) * 256 + 0) * 256 + 0) ((64 : Int) ^ (Int.toNat 4))) 64), PySem.Txt.item (PySem.Str.ofString "ABCDEFGHIJKLMNOPQRSTUVWXYZabcdefghijklmnopqrstuvwxyz0123456789+/") (Int.fmod (Int.fdiv ((((((0 * 256 + (o0.toNat : Int)) * 256 + (o1.toNat : Int)) * 256 + (o2.toNat : Int)) * 256 + (o3.toNat : Int)) * 256 + 0) * 256 + 0) ((64 : Int) ^ (Int.toNat 3))) 64), PySem.Txt.item (PySem.Str.ofString "ABCDEFGHIJKLMNOPQRSTUVWXYZabcdefghijklmnopqrstuvwxyz0123456789+/") (Int.fmod (Int.fdiv ((((((0 * 256 + (o0.toNat : Int)) * 256 + (o1.toNat : Int)) * 256 + (o2.toNat : Int)) * 256 + (o3.toNat : Int)) * 256 + 0) * 256 + 0) ((64 : Int) ^ (Int.toNat 2))) 64)] ++ PySem.Txt.mul (PySem.Str.ofString "=") 2 = ⟨[b64Sign (o0.toNat / 4), b64Sign (o0.toNat % 4 * 16 + o1.toNat / 16), b64Sign (o1.toNat % 16 * 4 + o2.toNat / 64), b64Sign (o2.toNat % 64), b64Sign (o3.toNat / 4), b64Sign (o3.toNat % 4 * 16), 61, 61].toArray⟩ := by
  have e0 := o0.toNat_lt; have e1 := o1.toNat_lt; have e2 := o2.toNat_lt; have e3 := o3.toNat_lt
  have i0 : (Int.fmod (Int.fdiv ((((((0 * 256 + (o0.toNat : Int)) * 256 + (o1.toNat : Int)) * 256 + (o2.toNat : Int)) * 256 + (o3.toNat : Int)) * 256 + 0) * 256 + 0) ((64 : Int) ^ (Int.toNat 7))) 64) = ((o0.toNat / 4 : Nat) : Int) := by
    rw [show ((64 : Int) ^ (Int.toNat 7)) = 4398046511104 from rfl, Int.fdiv_eq_ediv_of_nonneg _ (by decide), Int.fmod_eq_emod_of_nonneg _ (by decide)]
    omega
  have i1 : (Int.fmod (Int.fdiv ((((((0 * 256 + (o0.toNat : Int)) * 256 + (o1.toNat : Int)) * 256 + (o2.toNat : Int)) * 256 + (o3.toNat : Int)) * 256 + 0) * 256 + 0) ((64 : Int) ^ (Int.toNat 6))) 64) = ((o0.toNat % 4 * 16 + o1.toNat / 16 : Nat) : Int) := by
    rw [show ((64 : Int) ^ (Int.toNat 6)) = 68719476736 from rfl, Int.fdiv_eq_ediv_of_nonneg _ (by decide), Int.fmod_eq_emod_of_nonneg _ (by decide)]
    omega
  have i2 : (Int.fmod (Int.fdiv ((((((0 * 256 + (o0.toNat : Int)) * 256 + (o1.toNat : Int)) * 256 + (o2.toNat : Int)) * 256 + (o3.toNat : Int)) * 256 + 0) * 256 + 0) ((64 : Int) ^ (Int.toNat 5))) 64) = ((o1.toNat % 16 * 4 + o2.toNat / 64 : Nat) : Int) := by
    rw [show ((64 : Int) ^ (Int.toNat 5)) = 1073741824 from rfl, Int.fdiv_eq_ediv_of_nonneg _ (by decide), Int.fmod_eq_emod_of_nonneg _ (by decide)]
    omega
  have i3 : (Int.fmod (Int.fdiv ((((((0 * 256 + (o0.toNat : Int)) * 256 + (o1.toNat : Int)) * 256 + (o2.toNat : Int)) * 256 + (o3.toNat : Int)) * 256 + 0) * 256 + 0) ((64 : Int) ^ (Int.toNat 4))) 64) = ((o2.toNat % 64 : Nat) : Int) := by
    rw [show ((64 : Int) ^ (Int.toNat 4)) = 16777216 from rfl, Int.fdiv_eq_ediv_of_nonneg _ (by decide), Int.fmod_eq_emod_of_nonneg _ (by decide)]
    omega
  have i4 : (Int.fmod (Int.fdiv ((((((0 * 256 + (o0.toNat : Int)) * 256 + (o1.toNat : Int)) * 256 + (o2.toNat : Int)) * 256 + (o3.toNat : Int)) * 256 + 0) * 256 + 0) ((64 : Int) ^ (Int.toNat 3))) 64) = ((o3.toNat / 4 : Nat) : Int) := by
    rw [show ((64 : Int) ^ (Int.toNat 3)) = 262144 from rfl, Int.fdiv_eq_ediv_of_nonneg _ (by decide), Int.fmod_eq_emod_of_nonneg _ (by decide)]
    omega
  have i5 : (Int.fmod (Int.fdiv ((((((0 * 256 + (o0.toNat : Int)) * 256 + (o1.toNat : Int)) * 256 + (o2.toNat : Int)) * 256 + (o3.toNat : Int)) * 256 + 0) * 256 + 0) ((64 : Int) ^ (Int.toNat 2))) 64) = ((o3.toNat % 4 * 16 : Nat) : Int) := by
    rw [show ((64 : Int) ^ (Int.toNat 2)) = 4096 from rfl, Int.fdiv_eq_ediv_of_nonneg _ (by decide), Int.fmod_eq_emod_of_nonneg _ (by decide)]
    omega
  rw [item_b64 i0 (by omega)]
  rw [item_b64 i1 (by omega)]
  rw [item_b64 i2 (by omega)]
  rw [item_b64 i3 (by omega)]
  rw [item_b64 i4 (by omega)]
  rw [item_b64 i5 (by omega)]
  exact join6
end Mine
end
theorem Mine.rs_Q3 : True := by (w_top off; k_with_none; trivial)

section
open PySem PySem.W PyProof.Rows PySem.Calls PySem.Spec
set_option Elab.async false
set_option maxRecDepth 100000
set_option linter.unusedVariables false
namespace Mine
section
variable {prog : Program} {w : World} {A₀ A : Around} {s : Shared} {base h₀ : Heap} {L : Addr} {m : PySem.Str → Option Value} {news : List (Addr × Obj)} {K : Frag} {p : Program} {loose : List PySem.Str} {mean : ExcName → Option Value} {mg mb : PySem.Str → Option Value}
/-- a def of the text, walked with a ledger of its own -/
theorem code_defP {env : Env} {outer : List Env} {R : Result → Shared → Prop} {name qual : PySem.Str} {params : Arguments} {body : List Stmt} {scope : Scope} {dV kV doc pm cdv ct oc : Value} {an od : Option Addr} {osl : Array (Option Value)} {f : Addr} {args : Args} {binds : List (PySem.Str × Value)}
    (B : Below A₀ base outer h₀) (F : Fr h₀ L s.heap m) (X₀ : K.In h₀) (N : News h₀ L s.heap news) (T : Top p loose mean mg mb h₀) (hA : A.frames = some (env :: outer)) (hf : env.frame = some L) (hke : env.scope.kind = .function)
    (ho : K.lookup f = some ⟨oc, od, .func (fnOf name qual params body scope dV kV doc pm an cdv ct), osl⟩) (hcd : codeIn K cdv qual = true) (hroom : A.depth < recursionLimit)
    (hbind : BindsTo s (fnOf name qual params body scope dV kV doc pm an cdv ct) args binds) (hloc : ∀ y ∈ binds, scope.names.lookup y.1 = some .local)
    (h : ∀ g L' h₁, Fr h₀ L g m → Fr g L' h₁ (fun y => binds.reverse.lookup y) → News g L' h₁ [] → Below A base (env :: outer) g → K.In g → Top p loose mean mg mb g →
      wpAny (model prog w) (A.deeper (envOf qual scope L' f cdv)) (execs body (envOf qual scope L' f cdv))
        (fun fl s' => LeaveK h₀ L m g (RN h₀ L news R) (match fl with | .ret v => v | _ => .none) s')
        (fun e s' => wpAny (model prog w) (A.deeper (envOf qual scope L' f cdv)) (leaving (envOf qual scope L' f cdv) e) (fun _ s'' => R (.error e) s'') (fun e' s'' => R (.error e') s'') s')
        { s with heap := h₁, toks := s.toks + binds.length })
    (hco : scope.isCoroutine = false) (hgen : scope.isGenerator = false) (hk : scope.kind = .function)
    (hcell : ∀ x ∈ scope.names, x.2 ≠ .cell) : codeAny (model prog w) A (.call (.ref f) args) R s :=
  callX_plain (cl := []) B F N T.nolimit hA hf hke ((X₀.keeps F.keep) _ _ ho) rfl (codeRec_of (X₀.keeps F.keep) hcd) hroom hbind hloc
    (fun g L' h₁ FG F' N' B' st l => enter_clean (cells := []) F' N' l (fun _ hq => nomatch hq) FG B' (X₀.keeps st) (T.keeps st) (fun g2 a b c d e f => h g2 L' h₁ a b c d e f)) hcell hco hgen hk
end
end Mine
namespace Mine
open PySem PySem.W
theorem bInts4 {o0 o1 o2 o3 : UInt8} : KBw.bInts [o0, o1, o2, o3].toArray = [(o0.toNat : Int), (o1.toNat : Int), (o2.toNat : Int), (o3.toNat : Int)] := rfl
theorem bInts8 {c0 c1 c2 c3 c4 c5 c6 c7 : UInt8} : KBw.bInts [c0, c1, c2, c3, c4, c5, c6, c7].toArray = [(c0.toNat : Int), (c1.toNat : Int), (c2.toNat : Int), (c3.toNat : Int), (c4.toNat : Int), (c5.toNat : Int), (c6.toNat : Int), (c7.toNat : Int)] := rfl
end Mine
end
theorem Mine.rs_L3 : True := by (w_top off; k_with_none; trivial)

section
open PySem PySem.W PyProof.Rows PySem.Calls PySem.Spec
set_option Elab.async false
set_option maxRecDepth 100000
set_option linter.unusedVariables false
namespace Mine
/-- the sixty-four letters as octets -/
def b64Row : List UInt8 := [65, 66, 67, 68, 69, 70, 71, 72, 73, 74, 75, 76, 77, 78, 79, 80, 81, 82, 83, 84, 85, 86, 87, 88, 89, 90, 97, 98, 99, 100, 101, 102, 103, 104, 105, 106, 107, 108, 109, 110, 111, 112, 113, 114, 115, 116, 117, 118, 119, 120, 121, 122, 48, 49, 50, 51, 52, 53, 54, 55, 56, 57, 43, 47]
theorem b64Row_at (n : Nat) (h : n < 64) : ((b64Row.getD n 0).toNat : Int) = (b64Sign n : Int) := by
  have := (by decide +kernel : ∀ n : Fin 64, ((b64Row.getD n.val 0).toNat : Int) = (b64Sign n.val : Int)) ⟨n, h⟩
  exact this
section
variable {prog : Program} {w : World} {A : Around} {E : Value → Shared → Prop} {s : Shared} {Q : Value → Shared → Prop} {value slice : Expr}
theorem r_and {a b c : Int} {t u : Tok} (e : Builtin.bitAnd a b = c) (h : Q (.int c s.toks) { s with toks := s.toks + 1 }) : wpAny (model prog w) A (binaryOp .BitAnd (.int a t) (.int b u)) Q E s := by
  subst e; exact and_int h
theorem r_b64 {i : Int} {n : Nat} {t u : Tok} (e : i = (n : Int)) (hn : n < 64) (h : Q (.int (b64Sign n : Int) s.toks) { s with toks := s.toks + 1 })
    (hs : subscripted slice false (.bytes b64Row.toArray t) (.int i u) = operate [.bytes b64Row.toArray t, .int i u] (getItem (.bytes b64Row.toArray t) (.int i u)) := by with_unfolding_all rfl)
    (ht : ∀ r, letTemporaryGo value (.bytes b64Row.toArray t) r = pure () := by intro _; with_unfolding_all rfl) :
    wpAny (model prog w) A (subscriptTail value slice (.bytes b64Row.toArray t) (.int i u)) Q E s := by
  refine bytes_item_K (by decide +kernel) (by omega) ?_ ?_ h hs ht
  · rw [show b64Row.length = 64 from rfl]; omega
  · rw [e]; exact b64Row_at n hn
end
end Mine
end
theorem Mine.rs_Q4 : True := by (w_top off; k_with_none; trivial)

section
open PySem PySem.W PyProof.Rows
set_option Elab.async false
set_option maxRecDepth 100000
namespace Mine
/-- what a def of the text hands back when it is called with keywords -/
abbrev ClmK (w : World) (p : Program) (loose : List PySem.Str) (mean : ExcName → Option Value) (mg mb : PySem.Str → Option Value) (news : List (Addr × Obj)) (f : Addr) (lv : Nat) (vs : List Value) (kw : List (PySem.Str × Value)) (R : Tok → Value) : Prop :=
  ∀ (dp un : Nat) (gd : Option (List Code)) (cn : PySem.Str) (cs : Scope) (a : Addr) (ccd : Value) (cl : List (PySem.Str × Addr)) (outer : List Env) (A₀ : Around) (base h₀ : Heap) (L : Addr) (m : PySem.Str → Option Value) (s : Shared) (Q E : Value → Shared → Prop),
    Below A₀ base outer h₀ → Fr h₀ L s.heap m → (hd.heap_39 w.params).In h₀ → News h₀ L s.heap news → Top p loose mean mg mb h₀ → cs.kind = .function → FzAt w base → dp + lv < recursionLimit → un + 8 * lv < cLine →
    (∀ (t : Tok) (h' : Heap) (tk' : Nat), Fr h₀ L h' m → News h₀ L h' news → Q (R t) { s with heap := h', toks := tk' }) →
    wpAny (model PySem.Challenge.rw_qh0008_01.row.prog w) (ktrTop dp un gd cn cs L a ccd cl outer) (call (.ref f) vs kw) Q E s
end Mine
end
theorem Mine.rs_Q5 : True := by (w_top off; k_with_none; trivial)

section
open PySem PySem.W PyProof.Rows
set_option Elab.async false
set_option maxRecDepth 100000
set_option linter.unusedVariables false
namespace Mine

theorem kwC8_1 : True := by
  k_with_none
  (k_with "storeName" => (k_here; (try dsimp only); k_dflt (refine' storeX_P ?F ?N ?_ ?a ?b; (case F => k_asm); (case N => k_asm); (case a => rfl); (case b => rfl); k_whole); intro m' h' tk' F' N'; (try k_sweep)))
  (k_with "storeName" => (k_here; (try dsimp only); (with_reducible show wpAny _ _ (storeName _ _ (Value.int _ (HAdd.hAdd _ _))) _ _ _); k_dflt (refine' storeX_I ?F ?N ?_ ?a ?b; (case F => k_asm); (case N => k_asm); (case a => rfl); (case b => rfl); k_whole); intro t' m' h' tk' F' N'; (try k_sweep)))
  (k_with "storeName" => (k_here; (try dsimp only); (with_reducible show wpAny _ _ (storeName _ _ (Value.str _ (HAdd.hAdd _ _))) _ _ _); k_dflt (refine' storeX_S ?F ?N ?_ ?a ?b; (case F => k_asm); (case N => k_asm); (case a => rfl); (case b => rfl); k_whole); intro t' m' h' tk' F' N'; (try k_sweep)))
  (k_with "call type:type" => (k_here; (with_reducible show wpAny _ _ (call (Value.type "type") [Value.bytes _ _]) _ _ _); refine r_type_bytes ?_))
  (k_with "getMethod str" => (k_here; (with_reducible refine r_gm_encode ?_)))
  (k_with "getMethod bytes" => (k_here; (with_reducible refine r_gm_upper ?_)))
  (k_with "getMethod bytes" => (k_here; (with_reducible refine r_gm_hex ?_)))
  (k_with "call builtin:str.encode" => (k_here; (with_reducible refine' r_encode ?q1 ?q2 ?_; (case q1 => assumption); (case q2 => first | assumption | decide))))
  (k_with "call builtin:bytes.upper" => (k_here; (with_reducible refine' r_upper ?q1 ?_; (case q1 => first | assumption | decide))))
  (k_with "call builtin:bytes.hex" => (k_here; (with_reducible refine' r_hex ?q1 ?_; (case q1 => first | assumption | decide))))
  (k_with "call builtin:len" => (k_here; (with_reducible refine r_len8 ?_)))
  (k_with "call builtin:len" => (k_here; (with_reducible refine r_len4 ?_)))
  (k_with "call ref" => (k_here; (with_reducible show wpAny _ _ (call (Value.ref 116) _) _ _ _); (refine' buffer_spec _ _ _ _ _ _ _ _ _  _ _ _ _ _ _ _ _ _ _ _ _ _ _ _ _ _ ?k1 ?k2 ?k3 ?k4 ?k5 ?kK ?kz ?kd ?ku ?_; (case k1 => k_asm); (case k2 => k_asm); (case k3 => k_asm); (case k4 => k_asm); (case k5 => k_asm); (case kK => first | exact rfl | assumption); (case kz => assumption); (case kd => first | omega | ktr_room); (case ku => first | omega | ktr_units); intro t9 h9 tk9 F9 N9; (try dsimp only); (try k_fold))))
  (k_with "call ref" => (k_here; (with_reducible show wpAny _ _ (call (Value.ref 123) _) _ _ _); (refine' truth_spec _ _ _ _ _ _ _ _  _ _ _ _ _ _ _ _ _ _ _ _ _ _ _ _ _ ?k1 ?k2 ?k3 ?k4 ?k5 ?kK ?kz ?kd ?ku ?_; (case k1 => k_asm); (case k2 => k_asm); (case k3 => k_asm); (case k4 => k_asm); (case k5 => k_asm); (case kK => first | exact rfl | assumption); (case kz => assumption); (case kd => first | omega | ktr_room); (case ku => first | omega | ktr_units); intro t9 h9 tk9 F9 N9; (try dsimp only); (try k_fold))))
  (k_with "call ref" => (k_here; (with_reducible show wpAny _ _ (call (Value.ref 146) _ _) _ _ _); refine wpAny_call ?_; k_dflt (refine' code_def ?k1 ?k2 ?k3 ?k4 ?k5 ?kA ?kF ?kK ?k6 ?k7 ?k8 ?k9 ?kB ?_ ?c2 ?c3 ?c4 ?c5; (case kA => exact rfl); (case kF => exact rfl); (case kK => first | exact rfl | assumption); (case k1 => k_asm); (case k2 => k_asm); (case k3 => k_asm); (case k4 => k_asm); (case k5 => k_asm); (case k6 => k_is); (case k7 => k_is); (case k8 => ktr_room); (case k9 => (refine' kp_binds ?kx ?ke; (case kx => k_in); (case ke => exact fun _ => rfl))); (case c5 => decide); (case kB => exact locs rfl); (case c2 => exact rfl); (case c3 => exact rfl); (case c4 => exact rfl); k_whole; intro g' L' h' FG' F' N' B' X' T'; (try dsimp only); (try k_lift B'); (try k_fold))))
  (k_with "pyIter bytes" => (k_here; (with_reducible show wpAny _ _ (pyIter (Value.bytes _ _)) (fun it s₂ => LoopAtV _ _ _ _ _ _ _ _ _ it s₂) _ _); (rename Fr _ _ _ _ => lF'); (rename News _ _ _ _ => lN'); (first | (with_unfolding_all refine iter_bytesUnr (by rfl) lF' lN' bInts4 ?_) | (with_unfolding_all refine iter_bytesUnr (by rfl) lF' lN' bInts8 ?_)); clear lF' lN'; intro i' l1; (try k_lt l1)))
  (k_with "binaryOp BitAnd int int" => (k_here; (with_reducible refine' r_and ?q1 ?_; (case q1 => assumption))))
  (k_with "subscriptTail" => (k_here; (with_reducible show wpAny _ _ (subscriptTail _ _ (Value.bytes _ _) (Value.int _ _)) _ _ _); k_dflt (refine' r_b64 ?q1 ?q2 ?_; (case q1 => first | assumption | exact rfl); (case q2 => assumption); k_whole)))
  (k_with "call type:bytes" => (k_here; (with_reducible show wpAny _ _ (call (Value.type "bytes") [Value.ref _]) _ _ _); k_dflt (refine' r_bytes ?F ?N ?l ?i ?r ?z ?h ?_; (case F => k_asm); (case N => k_asm); (case l => is_list); (case i => (simp only [List.concat_eq_append, Array.toList_push, List.nil_append, List.cons_append, List.append_assoc]; (repeat' (first | (with_reducible exact IntsAre.nil) | (with_reducible refine' IntsAre.cons _ _ ?_))))); (case r => (simp only [List.forall_mem_cons, List.not_mem_nil, false_implies, implies_true, and_true]; (repeat' (first | with_reducible assumption | exact ⟨by decide, by decide⟩ | refine And.intro ?_ ?_)))); (case z => first | exact Nat.le_of_ble_eq_true rfl | (simp only [List.length_cons, List.length_nil]; omega)); (case h => with_unfolding_all rfl); k_whole); intro h' t' k' F' N'))
  trivial
set_option maxHeartbeats 4000000 in
theorem b2a64_spec (w : World) (p : Program) (loose : List PySem.Str) (mean : ExcName → Option Value) (mg mb : PySem.Str → Option Value) (news : List (Addr × Obj)) (o0 o1 o2 o3 : UInt8) (l0 l1 l2 l3 z : Int) (v0 v1 v2 v3 v4 v5 : Nat) (t : Tok) (a0 : Builtin.bitAnd (Builtin.bitOr (0 * 2 ^ Int.toNat 8) (o0.toNat : Int)) 65535 = l0) (a1 : Builtin.bitAnd (Builtin.bitOr (l0 * 2 ^ Int.toNat 8) (o1.toNat : Int)) 65535 = l1) (a2 : Builtin.bitAnd (Builtin.bitOr (l1 * 2 ^ Int.toNat 8) (o2.toNat : Int)) 65535 = l2) (a3 : Builtin.bitAnd (Builtin.bitOr (l2 * 2 ^ Int.toNat 8) (o3.toNat : Int)) 65535 = l3) (x0 : Builtin.bitAnd (Int.fdiv l0 (2 ^ (0 + 8 - 6 : Int).toNat)) 63 = (v0 : Int)) (y0 : v0 < 64) (x1 : Builtin.bitAnd (Int.fdiv l1 (2 ^ (0 + 8 - 6 + 8 - 6 : Int).toNat)) 63 = (v1 : Int)) (y1 : v1 < 64) (x2 : Builtin.bitAnd (Int.fdiv l2 (2 ^ (0 + 8 - 6 + 8 - 6 + 8 - 6 : Int).toNat)) 63 = (v2 : Int)) (y2 : v2 < 64) (x3 : Builtin.bitAnd (Int.fdiv l2 (2 ^ (0 + 8 - 6 + 8 - 6 + 8 - 6 - 6 : Int).toNat)) 63 = (v3 : Int)) (y3 : v3 < 64) (x4 : Builtin.bitAnd (Int.fdiv l3 (2 ^ (0 + 8 - 6 + 8 - 6 + 8 - 6 - 6 + 8 - 6 : Int).toNat)) 63 = (v4 : Int)) (y4 : v4 < 64) (z5 : Builtin.bitAnd l3 3 = z) (x5 : z * 2 ^ Int.toNat 4 = (v5 : Int)) (y5 : v5 < 64) (c0 : 0 ≤ l0 ∧ l0 < 65536) (c1 : 0 ≤ l1 ∧ l1 < 65536) (c2 : 0 ≤ l2 ∧ l2 < 65536) (c3 : 0 ≤ l3 ∧ l3 < 65536) (c5 : 0 ≤ z ∧ z < 4) (w0 : 0 ≤ (b64Sign v0 : Int) ∧ (b64Sign v0 : Int) < 256) (w1 : 0 ≤ (b64Sign v1 : Int) ∧ (b64Sign v1 : Int) < 256) (w2 : 0 ≤ (b64Sign v2 : Int) ∧ (b64Sign v2 : Int) < 256) (w3 : 0 ≤ (b64Sign v3 : Int) ∧ (b64Sign v3 : Int) < 256) (w4 : 0 ≤ (b64Sign v4 : Int) ∧ (b64Sign v4 : Int) < 256) (w5 : 0 ≤ (b64Sign v5 : Int) ∧ (b64Sign v5 : Int) < 256):
    ClmK w p loose mean mg mb news 146 4 [.bytes [o0, o1, o2, o3].toArray t] [(PySem.Str.ofString "newline", .bool false)] (fun t => .bytes (byteArr [(b64Sign v0 : Int), (b64Sign v1 : Int), (b64Sign v2 : Int), (b64Sign v3 : Int), (b64Sign v4 : Int), (b64Sign v5 : Int), 61, 61]) t) := by
  dsimp only [ClmK]
  k_fill
  intros
  rename_i hret
  refine wpAny_call ?_
  k_dflt (refine' code_defP ?k1 ?k2 ?k3 ?k4 ?k5 ?kA ?kF ?kK ?k6 ?k7 ?k8 ?k9 ?kB ?_ ?c2 ?c3 ?c4 ?c5; (case kA => exact rfl); (case kF => exact rfl); (case kK => first | exact rfl | assumption); (case k1 => k_asm); (case k2 => k_asm); (case k3 => k_asm); (case k4 => k_asm); (case k5 => k_asm); (case k6 => k_is); (case k7 => k_is); (case k8 => ktr_room); (case k9 => (refine' kp_binds ?kx ?ke; (case kx => k_in); (case ke => exact fun _ => rfl))); (case c5 => decide); (case kB => exact locs rfl); (case c2 => exact rfl); (case c3 => exact rfl); (case c4 => exact rfl); k_whole; intro g' L' h' FG' F' N' B' X' T'; (try dsimp only); (try k_lift B'); (try k_fold))
  k_steps
  all_goals (unfold RN; intro N9; refine hret _ _ _ ?e2 N9; (case e2 => k_asm))

end Mine
end
theorem Mine.rs_C8 : True := by (w_top off; k_with_none; trivial)

section
open PySem PySem.W PyProof.Rows
set_option Elab.async false
set_option maxRecDepth 100000
set_option linter.unusedVariables false
namespace Mine
theorem kwC9_1 : True := by
  k_with_none
  (k_with "storeName" => (k_here; (try dsimp only); k_dflt (refine' storeX_P ?F ?N ?_ ?a ?b; (case F => k_asm); (case N => k_asm); (case a => rfl); (case b => rfl); k_whole); intro m' h' tk' F' N'; (try k_sweep)))
  (k_with "storeName" => (k_here; (try dsimp only); (with_reducible show wpAny _ _ (storeName _ _ (Value.int _ (HAdd.hAdd _ _))) _ _ _); k_dflt (refine' storeX_I ?F ?N ?_ ?a ?b; (case F => k_asm); (case N => k_asm); (case a => rfl); (case b => rfl); k_whole); intro t' m' h' tk' F' N'; (try k_sweep)))
  (k_with "storeName" => (k_here; (try dsimp only); (with_reducible show wpAny _ _ (storeName _ _ (Value.str _ (HAdd.hAdd _ _))) _ _ _); k_dflt (refine' storeX_S ?F ?N ?_ ?a ?b; (case F => k_asm); (case N => k_asm); (case a => rfl); (case b => rfl); k_whole); intro t' m' h' tk' F' N'; (try k_sweep)))
  (k_with "call ref" => (k_here; (with_reducible show wpAny _ _ (call (Value.ref 146) _ _) _ _ _); (show wpAny _ _ (call (Value.ref 146) _ [(PySem.Str.ofString "newline", Value.bool false)]) _ _ _); (refine' b2a64_spec _ _ _ _ _ _ _ _ _ _ _ _ _ _ _ _ _ _ _ _ _ _ _ ?q0 ?q1 ?q2 ?q3 ?q4 ?q5 ?q6 ?q7 ?q8 ?q9 ?q10 ?q11 ?q12 ?q13 ?q14 ?q15 ?q16 ?q17 ?q18 ?q19 ?q20 ?q21 ?q22 ?q23 ?q24 ?q25 ?q26 ?q27 _ _ _ _ _ _ _ _ _ _ _ _ _ _ _ _ _ ?k1 ?k2 ?k3 ?k4 ?k5 ?kK ?kz ?kd ?ku ?_; (case q0 => assumption); (case q1 => assumption); (case q2 => assumption); (case q3 => assumption); (case q4 => assumption); (case q5 => assumption); (case q6 => assumption); (case q7 => assumption); (case q8 => assumption); (case q9 => assumption); (case q10 => assumption); (case q11 => assumption); (case q12 => assumption); (case q13 => assumption); (case q14 => assumption); (case q15 => assumption); (case q16 => assumption); (case q17 => assumption); (case q18 => assumption); (case q19 => assumption); (case q20 => assumption); (case q21 => assumption); (case q22 => assumption); (case q23 => assumption); (case q24 => assumption); (case q25 => assumption); (case q26 => assumption); (case q27 => assumption); (case k1 => k_asm); (case k2 => k_asm); (case k3 => k_asm); (case k4 => k_asm); (case k5 => k_asm); (case kK => first | exact rfl | assumption); (case kz => assumption); (case kd => first | omega | ktr_room); (case ku => first | omega | ktr_units); intro t9 h9 tk9 F9 N9; (try dsimp only); (try k_fold))))
  trivial
set_option maxHeartbeats 4000000 in
theorem b64enc_spec (w : World) (p : Program) (loose : List PySem.Str) (mean : ExcName → Option Value) (mg mb : PySem.Str → Option Value) (news : List (Addr × Obj)) (o0 o1 o2 o3 : UInt8) (l0 l1 l2 l3 z : Int) (v0 v1 v2 v3 v4 v5 : Nat) (t : Tok) (a0 : Builtin.bitAnd (Builtin.bitOr (0 * 2 ^ Int.toNat 8) (o0.toNat : Int)) 65535 = l0) (a1 : Builtin.bitAnd (Builtin.bitOr (l0 * 2 ^ Int.toNat 8) (o1.toNat : Int)) 65535 = l1) (a2 : Builtin.bitAnd (Builtin.bitOr (l1 * 2 ^ Int.toNat 8) (o2.toNat : Int)) 65535 = l2) (a3 : Builtin.bitAnd (Builtin.bitOr (l2 * 2 ^ Int.toNat 8) (o3.toNat : Int)) 65535 = l3) (x0 : Builtin.bitAnd (Int.fdiv l0 (2 ^ (0 + 8 - 6 : Int).toNat)) 63 = (v0 : Int)) (y0 : v0 < 64) (x1 : Builtin.bitAnd (Int.fdiv l1 (2 ^ (0 + 8 - 6 + 8 - 6 : Int).toNat)) 63 = (v1 : Int)) (y1 : v1 < 64) (x2 : Builtin.bitAnd (Int.fdiv l2 (2 ^ (0 + 8 - 6 + 8 - 6 + 8 - 6 : Int).toNat)) 63 = (v2 : Int)) (y2 : v2 < 64) (x3 : Builtin.bitAnd (Int.fdiv l2 (2 ^ (0 + 8 - 6 + 8 - 6 + 8 - 6 - 6 : Int).toNat)) 63 = (v3 : Int)) (y3 : v3 < 64) (x4 : Builtin.bitAnd (Int.fdiv l3 (2 ^ (0 + 8 - 6 + 8 - 6 + 8 - 6 - 6 + 8 - 6 : Int).toNat)) 63 = (v4 : Int)) (y4 : v4 < 64) (z5 : Builtin.bitAnd l3 3 = z) (x5 : z * 2 ^ Int.toNat 4 = (v5 : Int)) (y5 : v5 < 64) (c0 : 0 ≤ l0 ∧ l0 < 65536) (c1 : 0 ≤ l1 ∧ l1 < 65536) (c2 : 0 ≤ l2 ∧ l2 < 65536) (c3 : 0 ≤ l3 ∧ l3 < 65536) (c5 : 0 ≤ z ∧ z < 4) (w0 : 0 ≤ (b64Sign v0 : Int) ∧ (b64Sign v0 : Int) < 256) (w1 : 0 ≤ (b64Sign v1 : Int) ∧ (b64Sign v1 : Int) < 256) (w2 : 0 ≤ (b64Sign v2 : Int) ∧ (b64Sign v2 : Int) < 256) (w3 : 0 ≤ (b64Sign v3 : Int) ∧ (b64Sign v3 : Int) < 256) (w4 : 0 ≤ (b64Sign v4 : Int) ∧ (b64Sign v4 : Int) < 256) (w5 : 0 ≤ (b64Sign v5 : Int) ∧ (b64Sign v5 : Int) < 256):
    Clm w p loose mean mg mb news 177 6 [.bytes [o0, o1, o2, o3].toArray t]  (fun t => .bytes (byteArr [(b64Sign v0 : Int), (b64Sign v1 : Int), (b64Sign v2 : Int), (b64Sign v3 : Int), (b64Sign v4 : Int), (b64Sign v5 : Int), 61, 61]) t) := by
  dsimp only [Clm]
  k_fill
  intros
  rename_i hret
  refine wpAny_call ?_
  k_dflt (refine' code_def ?k1 ?k2 ?k3 ?k4 ?k5 ?kA ?kF ?kK ?k6 ?k7 ?k8 ?k9 ?kB ?_ ?c2 ?c3 ?c4 ?c5; (case kA => exact rfl); (case kF => exact rfl); (case kK => first | exact rfl | assumption); (case k1 => k_asm); (case k2 => k_asm); (case k3 => k_asm); (case k4 => k_asm); (case k5 => k_asm); (case k6 => k_is); (case k7 => k_is); (case k8 => ktr_room); (case k9 => first | exact BindsTo.of_eq rfl | exact binds_K (by k_in) rfl (by k_is) rfl rfl rfl | fail "no rule for these arguments"); (case c5 => decide); (case kB => exact locs rfl); (case c2 => exact rfl); (case c3 => exact rfl); (case c4 => exact rfl); k_whole; intro g' L' h' FG' F' N' B' X' T'; (try dsimp only); (try k_lift B'); (try k_fold))
  k_steps
  all_goals (first | (refine hret _ _ _ ?e2 ?e3; (case e2 => k_asm); (case e3 => first | k_asm | (refine' cb_drop ?cbN ?cbS; (case cbN => assumption); (case cbS => k_sub)))) | cb_end hret | w_report)

end Mine
end
theorem Mine.rs_C9 : True := by (w_top off; k_with_none; trivial)

section
open PySem PySem.W PyProof.Rows
set_option Elab.async false
set_option maxRecDepth 100000
set_option linter.unusedVariables false
namespace Mine
def b64Value (c : Int) : Int := if 65 ≤ c ∧ c ≤ 90 then c - 65 else if 97 ≤ c ∧ c ≤ 122 then c - 71 else if 48 ≤ c ∧ c ≤ 57 then c + 4 else if c = 43 then 62 else if c = 47 then 63 else 64
section
variable {prog : Program} {w : World} {A : Around} {E : Value → Shared → Prop} {s : Shared} {Q : Value → Shared → Prop}
theorem r_or {a b c : Int} {t u : Tok} (e : Builtin.bitOr a b = c) (h : Q (.int c s.toks) { s with toks := s.toks + 1 }) : wpAny (model prog w) A (binaryOp .BitOr (.int a t) (.int b u)) Q E s := by
  subst e; exact or_int h
end
theorem bInts8n {c0 c1 c2 c3 c4 c5 c6 c7 : UInt8} {k0 k1 k2 k3 k4 k5 k6 k7 : Int} (e0 : (c0.toNat : Int) = k0) (e1 : (c1.toNat : Int) = k1) (e2 : (c2.toNat : Int) = k2) (e3 : (c3.toNat : Int) = k3) (e4 : (c4.toNat : Int) = k4) (e5 : (c5.toNat : Int) = k5) (e6 : (c6.toNat : Int) = k6) (e7 : (c7.toNat : Int) = k7) :
    KBw.bInts [c0, c1, c2, c3, c4, c5, c6, c7].toArray = [k0, k1, k2, k3, k4, k5, k6, k7] := by subst e0 e1 e2 e3 e4 e5 e6 e7; rfl


theorem kwC10_1 : True := by
  k_with_none
  (k_with "storeName" => (k_here; (try dsimp only); k_dflt (refine' storeX_P ?F ?N ?_ ?a ?b; (case F => k_asm); (case N => k_asm); (case a => rfl); (case b => rfl); k_whole); intro m' h' tk' F' N'; (try k_sweep)))
  (k_with "storeName" => (k_here; (try dsimp only); (with_reducible show wpAny _ _ (storeName _ _ (Value.int _ (HAdd.hAdd _ _))) _ _ _); k_dflt (refine' storeX_I ?F ?N ?_ ?a ?b; (case F => k_asm); (case N => k_asm); (case a => rfl); (case b => rfl); k_whole); intro t' m' h' tk' F' N'; (try k_sweep)))
  (k_with "storeName" => (k_here; (try dsimp only); (with_reducible show wpAny _ _ (storeName _ _ (Value.str _ (HAdd.hAdd _ _))) _ _ _); k_dflt (refine' storeX_S ?F ?N ?_ ?a ?b; (case F => k_asm); (case N => k_asm); (case a => rfl); (case b => rfl); k_whole); intro t' m' h' tk' F' N'; (try k_sweep)))
  (k_with "call type:type" => (k_here; (with_reducible show wpAny _ _ (call (Value.type "type") [Value.bytes _ _]) _ _ _); refine r_type_bytes ?_))
  (k_with "getMethod str" => (k_here; (with_reducible refine r_gm_encode ?_)))
  (k_with "getMethod bytes" => (k_here; (with_reducible refine r_gm_upper ?_)))
  (k_with "getMethod bytes" => (k_here; (with_reducible refine r_gm_hex ?_)))
  (k_with "call builtin:str.encode" => (k_here; (with_reducible refine' r_encode ?q1 ?q2 ?_; (case q1 => assumption); (case q2 => first | assumption | decide))))
  (k_with "call builtin:bytes.upper" => (k_here; (with_reducible refine' r_upper ?q1 ?_; (case q1 => first | assumption | decide))))
  (k_with "call builtin:bytes.hex" => (k_here; (with_reducible refine' r_hex ?q1 ?_; (case q1 => first | assumption | decide))))
  (k_with "call builtin:len" => (k_here; (with_reducible refine r_len8 ?_)))
  (k_with "call builtin:len" => (k_here; (with_reducible refine r_len4 ?_)))
  trivial
set_option maxHeartbeats 4000000 in
theorem b64Value_spec (w : World) (p : Program) (loose : List PySem.Str) (mean : ExcName → Option Value) (mg mb : PySem.Str → Option Value) (news : List (Addr × Obj)) (c : Int) (t : Tok) :
    Clm w p loose mean mg mb news 130 2 [.int c t]  (fun t => .int (b64Value c) t) := by
  dsimp only [Clm]
  k_fill
  intros
  rename_i hret
  refine wpAny_call ?_
  k_dflt cell_enter
  k_steps
  k_with "tree" => simp only [b64Value]
  all_goals (first | (refine hret _ _ _ ?_ ?_ <;> k_asm) | cb_end hret | w_report)

theorem b64Value_at (w : World) (p : Program) (loose : List PySem.Str) (mean : ExcName → Option Value) (mg mb : PySem.Str → Option Value) (news : List (Addr × Obj)) (c d : Int) (t : Tok) (h : b64Value c = d) :
    Clm w p loose mean mg mb news 130 2 [.int c t] (fun t => .int d t) := h ▸ b64Value_spec w p loose mean mg mb news c t

end Mine
end
theorem Mine.rs_C10 : True := by (w_top off; k_with_none; trivial)

section
open PySem PySem.W PyProof.Rows PySem.Calls PySem.Spec
set_option Elab.async false
set_option maxRecDepth 100000
set_option linter.unusedVariables false
namespace Mine
/-- the tail of the own exception's line -/
def bmV : List Value := [.type "ValueError", .type "Exception", .type "BaseException", .type "object"]
theorem cls52 {P : Params} {h : Heap} (X : (hd.heap_39 P).In h) : ∃ nm q N bs hdct sn sub ab col dd k0 k1 k2 k3 k5 mN,
    h.get? 52 = some (excClassObj nm q 52 N bs bmV hdct sn sub ab col dd k0 k1 k2 k3 k5 "ValueError.__new__") ∧ h.Ns N mN ∧ mN "__init__" = none ∧ mN "__str__" = none :=
  ⟨_, _, _, _, _, _, _, _, _, _, _, _, _, _, _, h.nsMap _, X 52 _ rfl, .of_isNs (isNs_of_in X (by kernel_rfl)), nsMap_none_of_in X (by kernel_rfl) (by kernel_rfl), nsMap_none_of_in X (by kernel_rfl) (by kernel_rfl)⟩
abbrev excO (t : Addr) : Obj := { cls := .ref 52, data := .fields #[.ref t, .none, .none, .none, .bool false, .none] }
abbrev tupO (vs : List Value) : Obj := { cls := .type "tuple", data := .seq vs.toArray }
section
variable {prog : Program} {w : World} {A : Around} {E : Value → Shared → Prop} {s : Shared} {h₀ : Heap} {L : Addr} {m : PySem.Str → Option Value} {news : List (Addr × Obj)}
theorem none_of {h h' : Heap} (k : ∀ b o, h.get? b = some o → h'.get? b = some o) {b : Addr} (e : h'.get? b = none) : h.get? b = none := by
  cases q : h.get? b with
  | none => rfl
  | some o => have := k b o q; rw [e] at this; cases this
theorem x_make {vs : List Value} {Q : Value → Shared → Prop} (X : (hd.heap_39 w.params).In h₀) (F : Fr h₀ L s.heap m) (N : News h₀ L s.heap news) (hz : vs.length ≤ sizeLine)
    (h : ∀ e t h', Fr h₀ L h' m → News h₀ L h' ((e, excO t) :: (t, tupO vs) :: news) → e ≠ t → (∀ p ∈ news, p.1 ≠ e ∧ p.1 ≠ t) → Q (.ref e) { s with heap := h' }) :
    wpAny (model prog w) A (call (.ref 52) vs) Q E s := by
  obtain ⟨hp, g, d, tk, os⟩ := s
  obtain ⟨nm, q, N1, bs, hdct, sn, sub, ab, col, dd, k0, k1, k2, k3, k5, mN, hC, hN, hni, hns⟩ := cls52 (X.keeps F.keep)
  refine wpAny_call_exc_sub PySem.F.excBase_ValueError hC hN hni (fun h' e hm => ?_) hz
  obtain ⟨t, he, htn, ht⟩ := hm.there
  have F' := F.keeps hm.keeps
  have N' := N.grown hm.keeps
  have hen := hm.new
  have ht0 : hp.get? t = none := htn
  refine h e t h' F' (News.more F' (News.more F' N' ht (fun es n q => by cases q) (none_of F.keep htn)) he (fun es n q => by cases q) (none_of F.keep hen)) (fun q => ?_) fun p hp' => ⟨fun q => ?_, fun q => ?_⟩
  · rw [q] at he
    have he' : h'.get? t = _ := he
    rw [ht] at he'
    cases he'
  · have z := (N p hp').1
    dsimp only at z
    rw [q, hen] at z; cases z
  · have z := (N p hp').1
    dsimp only at z
    rw [q, htn] at z; cases z
/-- what a raise of a made thing finds -/
def RaiseAt (E : Value → Shared → Prop) (w : World) (v : Value) (s₁ : Shared) : Prop := ∃ e t, v = .ref e ∧ (hd.heap_39 w.params).In s₁.heap ∧ s₁.heap.get? e = some (excO t) ∧ E (.ref e) s₁
theorem x_raise {exc : Expr} {pos : Pos} {env : Env} {Q : Flow → Shared → Prop} (hh : A.handled = none) (h : wpAny (model prog w) A (eval exc env) (RaiseAt E w) E s) :
    wpAny (model prog w) A (exec (.Raise (some exc) none pos) env) Q E s := by
  rw [arm_exec_Raise]
  simp only [evalOpt, Option.map]
  refine wpAny_bind (wpAny_standAt ?_)
  have key : ∀ {s : Shared} {x : Sem Value}, wpAny (model prog w) A x (RaiseAt E w) E s → wpAny (model prog w) A (raiseStmt env (some x) none) Q E s := by
    intro s x h
    unfold raiseStmt
    refine wpAny_bind (wpAny_mono h (fun v s₁ h₁ => ?_) fun _ _ x => x)
    obtain ⟨e, t, rfl, X, he, hE⟩ := h₁
    obtain ⟨nm, q, N1, bs, hdct, sn, sub, ab, col, dd, k0, k1, k2, k3, k5, mN, hC, hN, hni, hns⟩ := cls52 X
    have hcB : (Value.ref 52 :: bmV).contains (.type "BaseException") = true := by decide
    obtain ⟨hp, g, d, tk, os⟩ := s₁
    repeat (first | with_reducible refine wpAny_loadPart_at he ?_ | with_reducible refine wpAny_loadPart_at hC ?_ | (with_reducible refine wpAny_isSubtype_exc hC ?_; rw [hcB]) | wp_step)
    exact wpAny_raiseNew_none hh hE
  refine key (wpAny_bind (wpAny_mono h (fun v s₁ h₁ => wpAny_bind (wpAny_standAt (wpAny_pure h₁))) fun _ _ x => x))
end
end Mine
end
theorem Mine.rs_X1 : True := by (w_top off; k_with_none; trivial)

section
open PySem PySem.W PyProof.Rows PySem.Calls PySem.Spec
set_option Elab.async false
set_option maxRecDepth 100000
set_option linter.unusedVariables false
namespace Mine
open Sem (wp)
open Builtin Builtin.Str Builtin.BaseException
section
variable {P : Params} {prog : Program} {w : World} {A : Around} {E : Value → Shared → Prop} {s : Shared} {h₀ : Heap} {L : Addr} {m : PySem.Str → Option Value} {news : List (Addr × Obj)}
/-- the own exception stands at e with its one text -/
def XAt (h : Heap) (e t : Addr) (msg : PySem.Str) (u : Tok) : Prop := (∃ o vs, h.get? e = some o ∧ o.cls = .ref 52 ∧ o.data = .fields vs ∧ vs[0]? = some (.ref t)) ∧ h.TupAt t [.str msg u]
theorem x_args {M : Model} {e t : Addr} {msg : PySem.Str} {u : Tok} {Q : Value × List Value → Shared → Prop} (x : XAt s.heap e t msg u) (hq : Q (.ref t, [.str msg u]) s) :
    wpAny M A (bexcArgs (.ref e)) Q E s := by
  obtain ⟨⟨o, vs, ho, _, hd, h0⟩, ot, k, hto, _, htd⟩ := x
  unfold bexcArgs
  refine wpAny_bind (wpAny_field ho hd h0 (wpAny_bind (wpAny_seqItems hto htd ?_)))
  exact wpAny_pure hq
theorem x_strEntry {e t : Addr} {msg : PySem.Str} {u : Tok} {Q : Fin → Shared → Prop} (x : XAt s.heap e t msg u) (hq : Q (.done (.ret (.str msg u))) s) :
    wpAny (model prog w) A (Builtin.«BaseException.__str__» ⟨[.ref e], []⟩) Q E s := by
  unfold Builtin.«BaseException.__str__»
  repeat (first | with_reducible refine x_args x ?_ | wp_step)
  exact hq
theorem x_check {M : Model} {e t : Addr} {msg : PySem.Str} {u : Tok} {Q : Unit → Shared → Prop} (X : (hd.heap_39 P).In s.heap) (x : XAt s.heap e t msg u) (hq : Q () s) :
    wpAny M A (checkBuiltinCall "BaseException.__str__" ⟨[.ref e], []⟩) Q E s := by
  have hk : builtinKind "BaseException.__str__" = some .slot := by decide +kernel
  have hsplit : splitId "BaseException.__str__" = some ("BaseException", "__str__") := by decide +kernel
  obtain ⟨⟨o, vs, ho, hc, hd, h0⟩, ht⟩ := x
  obtain ⟨nm, q, N1, bs, hdct, sn, sub, ab, col, dd, k0, k1, k2, k3, k5, mN, hC, hN, hni, hns⟩ := cls52 X
  have hcB : (Value.ref 52 :: bmV).contains (.type "BaseException") = true := by decide
  have ha := F.args_bexc_str (.ref e)
  obtain ⟨hp, g, d, tk, os⟩ := s
  simp only [checkBuiltinCall, hk, hsplit]
  refine wpAny_bind ?_
  · unfold isInstance
    repeat (first | (with_reducible refine wpAny_loadPart_at ho ?_; rw [hc]) | (with_reducible refine wpAny_isSubtype_exc hC ?_; rw [hcB]) | wp_step)
    exact hq
theorem x_strOf {e t : Addr} {msg : PySem.Str} {u : Tok} {Q : Value → Shared → Prop} (hu : A.units < cLine) (X : (hd.heap_39 P).In s.heap) (x : XAt s.heap e t msg u) (hq : Q (.str msg u) s) :
    wpAny (model prog w) A (Builtin.Str.strOf (.ref e)) Q E s := by
  have sp : ∀ {Q : Option Value → Shared → Prop}, Q (some (.str msg u)) s → wpAny (model prog w) A (callSpecial? (.ref e) "__str__" [] []) Q E s := by
    intro Q hq
    have x' := x
    obtain ⟨⟨o, vs, ho, hc, hd, h0⟩, ht⟩ := x'
    obtain ⟨nm, q, N1, bs, hdct, sn, sub, ab, col, dd, k0, k1, k2, k3, k5, mN, hC, hN, hni, hns⟩ := cls52 X
    have hbind := PySem.F.excStr_ValueError.str.bind (.ref e)
    have hlk := PySem.F.excStr_ValueError.str.lookup
    have hmro := PySem.F.excBase_ValueError.mroIs
    obtain ⟨hp, g, d, tk, os⟩ := s
    simp only [callSpecial?]
    refine wpAny_bind ?_
    unfold specialOf
    repeat (first | (with_reducible refine wpAny_loadPart_at ho ?_; rw [hc]) | (with_reducible refine wpAny_typeLookup_exc hC hN hmro hlk ?_; rw [hns]) | wp_step)
    refine codeAny_call_builtin PySem.F.excStr_ValueError.str.plain F.entry_bexc_str (x_check X x (x_strEntry x ?_))
    exact wpAny_pure hq
  unfold Builtin.Str.strOf
  repeat (first | with_reducible refine wpAny_cRoomFor hu ?_ | with_reducible refine sp ?_ | wp_step)
  exact hq
theorem x_str {e t : Addr} {msg : PySem.Str} {u : Tok} {Q : Value → Shared → Prop} (X : (hd.heap_39 w.params).In h₀) (FF : Fr h₀ L s.heap m) (N : News h₀ L s.heap news) (G : Got news e t (.ref 52) [.str msg u]) (hu : A.units + 2 < cLine) (hq : Q (.str msg u) s) :
    wpAny (model prog w) A (call (.type "str") [.ref e]) Q E s := by
  obtain ⟨oe, ot, ws, nt, h1, h2, h3, h4, h5, h6, h7⟩ := G
  have x : XAt s.heap e t msg u := ⟨⟨oe, ws, (N _ h1).1, h3, h4, h5⟩, ot, nt, (N _ h2).1, h6, h7⟩
  refine callType_new (S := fun A' R s' => A'.units + 1 < cLine ∧ (hd.heap_39 w.params).In s'.heap ∧ XAt s'.heap e t msg u ∧ R (.ok (.ret (.str msg u))) s') F.called_str (by decide) (F.typeCall_str_1 _) (F.newCall_str_1 _) (fun obj => F.args_object_init_2 obj _) F.entry_str_new ?_ ⟨(show A.units + 1 + 1 < cLine from hu), X.keeps FF.keep, x, typeIs_str _ _ _, hq⟩
  exact meets_str_new fun _ _ A' _ _ hq => x_strOf (A := A'.in1) hq.1 hq.2.1 hq.2.2.1 hq.2.2.2
end
end Mine
end
theorem Mine.rs_X2 : True := by (w_top off; k_with_none; trivial)

section
open PySem PySem.W PyProof.Rows PySem.Calls PySem.Spec
set_option Elab.async false
set_option maxRecDepth 100000
set_option linter.unusedVariables false
namespace Mine
theorem codeHd69 {P : Params} {h : Heap} (X : (hd.heap_39 P).In h) : CodeHd h 68 64 := ⟨_, _, _, _, _, _, _, _, _, X 68 _ rfl, rfl, rfl, rfl, rfl, rfl, rfl, rfl, rfl, by decide⟩
abbrev coordQ : PySem.Str := PySem.Str.ofString "suffixed_err.<locals>.coord_repr"
/-- the table of suffixed_err's made codes, and the one code in it: none yet, or the one that it makes -/
def Wrm (ps : Array Value) (c : Addr) (oc : Obj) : Prop :=
  ps = #[] ∨ (ps = #[rawInt 22, rawInt 4, .ref c] ∧ c ≠ 64 ∧ ∃ vs t, oc.data = .fields vs ∧ vs[1]? = some (.str coordQ t))
/-- the rest of the ledger lies apart from the table and from the code -/
def Off (c : Addr) (others : List (Addr × Obj)) : Prop := ∀ q ∈ others, q.1 ≠ 64 ∧ q.1 ≠ c
section
variable {M : Model} {A : Around} {E : Value → Shared → Prop} {s : Shared} {h₀ : Heap} {L : Addr} {m mg mb : PySem.Str → Option Value} {cn : PySem.Str} {cs : Scope} {a : Addr} {cl : List (PySem.Str × Addr)} {others : List (Addr × Obj)} {P : Params}
  {p : Program} {loose : List PySem.Str} {mean : ExcName → Option Value} {name qual : PySem.Str} {params : Arguments} {body : List Stmt} {scope : Scope} {pos : Pos} {firstLine : Nat} {clos : List (PySem.Str × Addr)} {ps : Array Value} {c : Addr} {oc : Obj}
theorem mk_coord {Q : Value → Shared → Prop} (F : Fr h₀ L s.heap m) (N : News h₀ L s.heap ((64, tabObj ps) :: (c, oc) :: others)) (T : Top p loose mean mg mb h₀) (X : (hd.heap_39 P).In h₀) (W : Wrm ps c oc) (off : Off c others) (hl : pos.line = 22) (hc : pos.col = 4) (hq : qual = coordQ)
    (hcl : closureFor scope (envX cn cs L a (.ref 68) cl) = pure clos)
    (h : ∀ f ps' c' oc' vs t ctv doc h' tk, Fr h₀ L h' m → News h₀ L h' ((f, fnMade name qual params body scope clos doc ((mg "__name__").getD .none) c' ctv) :: (64, tabObj ps') :: (c', oc') :: others) → Wrm ps' c' oc' → Off c' others →
      oc'.data = .fields vs → vs[1]? = some (.str qual t) → (∀ q ∈ (64, tabObj ps') :: (c', oc') :: others, q.1 < f) → Q (.ref f) { s with heap := h', toks := tk }) :
    wpAny M A (makeFunction name qual params (.stmts body) scope (envX cn cs L a (.ref 68) cl) [] [] [] pos firstLine) Q E s := by
  have C := codeHd69 X
  rcases W with rfl | ⟨rfl, hc64, vs, t, hd, hv⟩
  · have N1 : News h₀ L s.heap ((64, tabObj #[]) :: others) := fun q hq => N q (by rcases List.mem_cons.mp hq with rfl | hq; exact .head _; exact .tail _ (.tail _ hq))
    refine nest_K F N1 T C rfl (.head fun q hq => (off q hq).1) trivial rfl hcl fun f c' oc vs t ctv doc h' tk F' N' hd hv l1 l2 => ?_
    have c64 : @LT.lt Nat _ 64 c' := l1 (64, tabObj #[]) (.head _)
    have eps : (#[] ++ #[rawInt (pos.line : Int), rawInt (pos.col : Int), Value.ref c'] : Array Value) = #[rawInt 22, rawInt 4, .ref c'] := by rw [hl, hc]; rfl
    rw [eps] at N'
    refine h f _ c' oc vs t ctv doc h' tk F' (fun q hq => N' q ?_) (.inr ⟨rfl, Nat.ne_of_gt c64, vs, t, hd, hq ▸ hv⟩) (fun q hq => ⟨(off q hq).1, Nat.ne_of_lt (l1 q (.tail _ hq))⟩) hd hv fun q hq => ?_
    · simp only [List.mem_cons] at hq ⊢
      rcases hq with hq | hq | hq | hq
      · exact .inl hq
      · exact .inr (.inr (.inl hq))
      · exact .inr (.inl hq)
      · exact .inr (.inr (.inr hq))
    · simp only [List.mem_cons] at hq
      rcases hq with rfl | rfl | hq
      · exact Nat.lt_trans c64 l2
      · exact l2
      · exact Nat.lt_trans (l1 q (.tail _ hq)) l2
  · refine nestHit_K (c' := c) F N T C rfl (.head _) trivial ?_ hcl fun f ctv doc h' tk F' N' l1 => ?_
    · show (if ((22 : Int) == (pos.line : Int) && (4 : Int) == (pos.col : Int)) = true then some (Value.ref c) else _) = _
      rw [hl, hc]; rfl
    · exact h f _ c oc vs t ctv doc h' tk F' N' (.inr ⟨rfl, hc64, vs, t, hd, hv⟩) off hd (hq ▸ hv) l1
end
/-- what suffixed_err hands back: the exception, made, with its text -/
abbrev ClmX (w : World) (p : Program) (loose : List PySem.Str) (mean : ExcName → Option Value) (mg mb : PySem.Str → Option Value) (others : List (Addr × Obj)) (f : Addr) (lv : Nat) (vs : List Value) (msg : PySem.Str) : Prop :=
  ∀ (dp un : Nat) (gd : Option (List Code)) (cn : PySem.Str) (cs : Scope) (a : Addr) (ccd : Value) (cl : List (PySem.Str × Addr)) (outer : List Env) (A₀ : Around) (base h₀ : Heap) (L : Addr) (m : PySem.Str → Option Value) (s : Shared) (Q E : Value → Shared → Prop) (ps : Array Value) (c : Addr) (oc : Obj),
    Below A₀ base outer h₀ → Fr h₀ L s.heap m → (hd.heap_39 w.params).In h₀ → News h₀ L s.heap ((64, tabObj ps) :: (c, oc) :: others) → Top p loose mean mg mb h₀ → cs.kind = .function → FzAt w base → dp + lv < recursionLimit → un + 8 * lv < cLine → Wrm ps c oc → Off c others →
    (∀ (e t : Addr) (u : Tok) (h' : Heap) (tk' : Nat) (ps' : Array Value) (c' : Addr) (oc' : Obj), Fr h₀ L h' m → News h₀ L h' ((e, excO t) :: (t, tupO [.str msg u]) :: (64, tabObj ps') :: (c', oc') :: others) → Wrm ps' c' oc' → Off c' others → e ≠ t → (∀ p ∈ (64, tabObj ps') :: (c', oc') :: others, p.1 ≠ e ∧ p.1 ≠ t) →
      Q (.ref e) { s with heap := h', toks := tk' }) →
    wpAny (model PySem.Challenge.rw_qh0008_01.row.prog w) (ktrTop dp un gd cn cs L a ccd cl outer) (call (.ref f) vs) Q E s
end Mine
end
theorem Mine.rs_Y1 : True := by (w_top off; k_with_none; trivial)

section
open PySem PySem.W PyProof.Rows PySem.Calls PySem.Spec
open Builtin Builtin.Str
set_option Elab.async false
set_option maxRecDepth 100000
set_option linter.unusedVariables false
namespace Mine
theorem gives_count_to (x y : PySem.Str) (i j : Int) (t u v v2 : Tok) : Gives («str.count» ⟨[.str x t, .str y u, .int i v, .int j v2], []⟩) (.int (occurrences x y (fromIndex x.length i) (min (fromIndex x.length j) x.length) (x.length + 1)).length) := by
  show Gives (retInt (occurrences x y (fromIndex x.length i) (min (fromIndex x.length j) x.length) (x.length + 1)).length) _
  exact .of_eq rfl
theorem occ_none {x : PySem.Str} {c lo hi lim : Nat} (hx : c ∉ x.cps.toList) (hh : hi ≤ x.length) : occurrences x ⟨#[c]⟩ lo hi lim = [] := by
  refine List.eq_nil_iff_forall_not_mem.mpr fun i hi' => ?_
  obtain ⟨h1, h2⟩ := StrLaws.occ_spec _ _ _ _ _ i hi'
  have h3 := (StrLaws.subAt_one x c i).mp ⟨Nat.le_trans h1 hh, h2⟩
  exact hx (List.mem_of_getElem? h3)
theorem nl_eq : PySem.Str.ofString "\n" = ⟨#[10]⟩ := by decide +kernel
section
variable {prog : Program} {w : World} {A : Around} {E : Value → Shared → Prop} {s : Shared} {Q : Value → Shared → Prop}
theorem r_count0 {l : List Nat} {t u v v2 : Tok} {i j : Int} (hx : ∀ y ∈ l, y < 128 ∧ y ≠ 10) (h : Q (.int 0 s.toks) { s with toks := s.toks + 1 }) :
    wpAny (model prog w) A (call (.builtin "str.count") [.str ⟨l.toArray⟩ t, .str (PySem.Str.ofString "\n") u, .int i v, .int j v2]) Q E s := by
  refine call_gives F.slot_str_count (typeIs_str _ _ _) F.entry_str_count (F.args_str_count_4 _ _ _ _) (gives_count_to _ _ i j t u v v2) ?_
  rw [nl_eq, occ_none (fun q => (hx _ (by simpa using q)).2 rfl) (Nat.min_le_right _ _)]
  exact h
theorem r_lenS {l : List Nat} {n : Int} {t : Tok} (e : (l.length : Int) = n) (hl : l.length ≤ 1000) (h : Q (.int n (s.toks + 1)) { s with toks := s.toks + 1 + 1 }) : wpAny (model prog w) A (call (.builtin "len") [.str ⟨l.toArray⟩ t]) Q E s := by
  subst e
  exact len_str (x := ⟨l.toArray⟩) (by show ¬ ((l.toArray.size : Nat) : Int) ≥ 2 ^ 63; simp; omega) h
theorem x_mk1 {h₀ : Heap} {L : Addr} {m : PySem.Str → Option Value} {news : List (Addr × Obj)} {raw msg : PySem.Str} {u : Tok} (X : (hd.heap_39 w.params).In h₀) (F : Fr h₀ L s.heap m) (N : News h₀ L s.heap news) (em : raw = msg)
    (h : ∀ e t h', Fr h₀ L h' m → News h₀ L h' ((e, excO t) :: (t, tupO [.str msg u]) :: news) → e ≠ t → (∀ p ∈ news, p.1 ≠ e ∧ p.1 ≠ t) → Q (.ref e) { s with heap := h' }) :
    wpAny (model prog w) A (call (.ref 52) [.str raw u]) Q E s := by
  subst em
  exact x_make X F N (Nat.le_of_ble_eq_true rfl) h
theorem sub_ne {x : Addr × Obj} {r : List (Addr × Obj)} {P : Addr × Obj → Prop} (h : ∀ p ∈ x :: r, P p) : ∀ p ∈ r, P p := fun p hp => h p (.tail _ hp)
theorem drop3 {h₀ h : Heap} {L : Addr} {a b x : Addr × Obj} {r : List (Addr × Obj)} (N : News h₀ L h (a :: b :: x :: r)) : News h₀ L h (a :: b :: r) := fun q hq => N q (by
  rcases List.mem_cons.mp hq with rfl | hq
  · exact .head _
  · rcases List.mem_cons.mp hq with rfl | hq
    · exact .tail _ (.head _)
    · exact .tail _ (.tail _ (.tail _ hq)))
end
end Mine
end
theorem Mine.rs_Y2 : True := by (w_top off; k_with_none; trivial)

section
open PySem PySem.W PyProof.Rows
set_option Elab.async false
set_option maxRecDepth 100000
set_option linter.unusedVariables false
namespace Mine

theorem kwY3_1 : True := by
  k_with_none
  (k_with "storeName" => (k_here; (try dsimp only); k_dflt (refine' storeX_P ?F ?N ?_ ?a ?b; (case F => k_asm); (case N => k_asm); (case a => rfl); (case b => rfl); k_whole); intro m' h' tk' F' N'; (try k_sweep)))
  (k_with "storeName" => (k_here; (try dsimp only); (with_reducible show wpAny _ _ (storeName _ _ (Value.int _ (HAdd.hAdd _ _))) _ _ _); k_dflt (refine' storeX_I ?F ?N ?_ ?a ?b; (case F => k_asm); (case N => k_asm); (case a => rfl); (case b => rfl); k_whole); intro t' m' h' tk' F' N'; (try k_sweep)))
  (k_with "storeName" => (k_here; (try dsimp only); (with_reducible show wpAny _ _ (storeName _ _ (Value.str _ (HAdd.hAdd _ _))) _ _ _); k_dflt (refine' storeX_S ?F ?N ?_ ?a ?b; (case F => k_asm); (case N => k_asm); (case a => rfl); (case b => rfl); k_whole); intro t' m' h' tk' F' N'; (try k_sweep)))
  (k_with "exec FunctionDef" => (k_here; k_dflt (refine' nestDef_K ?d0 ?k0 ?a0 ?_; (case d0 => exact rfl); (case k0 => exact rfl); (case a0 => exact rfl)); k_dflt (refine' mk_coord ?F ?N ?T ?X ?W ?O ?l ?c ?q ?cl ?_; (case F => k_asm); (case N => k_asm); (case T => k_asm); (case X => k_asm); (case W => assumption); (case O => assumption); (case l => rfl); (case c => rfl); (case q => rfl); (case cl => exact rfl); k_whole); intro f' ps' c' oc' vs' t' ct' dc' h' tk' F' N' W' O' d1' d2' l1; (try dsimp only at N'); (try k_lt l1)))
  (k_with "call ref" => (k_here; kn_here; k_dflt (refine wpAny_call ?_; (refine' code_nest ?k1 ?k2 ?k3 ?k4 ?k5 ?kA ?kF ?kK ?k6 ?k7 ?k8 ?k9 ?kB ?_ ?c2 ?c3 ?c4 ?c5; (case kA => exact rfl); (case kF => exact rfl); (case kK => exact rfl); (case k1 => k_asm); (case k2 => k_asm); (case k3 => k_asm); (case k4 => k_asm); (case k5 => k_asm); (case k6 => k_mem); (case k7 => exact codeRec_news (by k_asm) (by k_mem) (by assumption) (by assumption)); (case k8 => ktr_room); (case k9 => exact BindsTo.of_eq rfl); (case c5 => decide); (case kB => exact locs rfl); (case c2 => exact rfl); (case c3 => exact rfl); (case c4 => exact rfl); k_whole; intro g' L' h' FG' F' N' B' X' T'; (try dsimp only); (try k_lift B'); (try k_fold)))))
  (k_with "call builtin:len" => (k_here; (refine' r_lenS ?q1 ?q2 ?_; (case q1 => assumption); (case q2 => omega))))
  (k_with "call builtin:str.count" => (k_here; (refine' r_count0 ?q1 ?_; (case q1 => assumption))))
  (k_with "call ref" => (k_here; (with_reducible show wpAny _ _ (call (Value.ref 52) _) _ _ _); k_dflt (first | (refine' x_mk1 (msg := PySem.Str.ofString "Invalid hex value (at line 1, column 1)") ?X ?F ?N ?em ?_; (case em => decide +kernel); (case X => k_asm); (case F => k_asm); (case N => k_asm); k_whole) | (refine' x_mk1 (msg := PySem.Str.ofString "Escaped character is not a Unicode scalar value (at line 1, column 5)") ?X ?F ?N ?em ?_; (case em => decide +kernel); (case X => k_asm); (case F => k_asm); (case N => k_asm); k_whole) | (refine' x_mk1 (msg := PySem.Str.ofString "Escaped character is not a Unicode scalar value (at end of document)") ?X ?F ?N ?em ?_; (case em => decide +kernel); (case X => k_asm); (case F => k_asm); (case N => k_asm); k_whole) | (refine' x_mk1 (msg := PySem.Str.ofString "Escaped character is not a Unicode scalar value (at line 1, column 9)") ?X ?F ?N ?em ?_; (case em => decide +kernel); (case X => k_asm); (case F => k_asm); (case N => k_asm); k_whole)); intro e' t' h' F' N' ne' l'))
  trivial
set_option maxHeartbeats 4000000 in
theorem sfx_A (w : World) (p : Program) (loose : List PySem.Str) (mean : ExcName → Option Value) (mg mb : PySem.Str → Option Value) (others : List (Addr × Obj)) (l : List Nat) (n : Int) (t1 t2 t3 : Tok) (hn : (l.length : Int) = n) (hz : n < 1000) (hp : 0 < n) (hx : ∀ y ∈ l, y < 128 ∧ y ≠ 10) :
    ClmX w p loose mean mg mb others 69 6 [.str ⟨l.toArray⟩ t1, .int 0 t2, .str (PySem.Str.ofString "Invalid hex value") t3] (PySem.Str.ofString "Invalid hex value (at line 1, column 1)") := by
  dsimp only [ClmX]
  k_fill
  intros
  rename_i hret
  refine wpAny_call ?_
  k_dflt cell_enter
  rename Frag.In _ _ => X9
  have C9 := codeHd69 X9
  k_steps
  all_goals (refine' hret _ ?a2 ?a3 _ _ ?a6 ?a7 ?a8 ?e1 ?e2 ?e3 ?e4 ?e5 ?e6; (case e3 => assumption); (case e5 => assumption); (case e1 => k_asm); (case e2 => (refine' drop3 ?n3; (case n3 => assumption))); (case e4 => assumption); (case e6 => exact sub_ne (by assumption)))


set_option maxHeartbeats 4000000 in
theorem sfx_B (w : World) (p : Program) (loose : List PySem.Str) (mean : ExcName → Option Value) (mg mb : PySem.Str → Option Value) (others : List (Addr × Obj)) (l : List Nat) (n : Int) (t1 t2 t3 : Tok) (hn : (l.length : Int) = n) (hz : n < 1000) (hp : 4 < n) (hx : ∀ y ∈ l, y < 128 ∧ y ≠ 10) :
    ClmX w p loose mean mg mb others 69 6 [.str ⟨l.toArray⟩ t1, .int 4 t2, .str (PySem.Str.ofString "Escaped character is not a Unicode scalar value") t3] (PySem.Str.ofString "Escaped character is not a Unicode scalar value (at line 1, column 5)") := by
  dsimp only [ClmX]
  k_fill
  intros
  rename_i hret
  refine wpAny_call ?_
  k_dflt cell_enter
  rename Frag.In _ _ => X9
  have C9 := codeHd69 X9
  k_steps
  all_goals (refine' hret _ ?a2 ?a3 _ _ ?a6 ?a7 ?a8 ?e1 ?e2 ?e3 ?e4 ?e5 ?e6; (case e3 => assumption); (case e5 => assumption); (case e1 => k_asm); (case e2 => (refine' drop3 ?n3; (case n3 => assumption))); (case e4 => assumption); (case e6 => exact sub_ne (by assumption)))


set_option maxHeartbeats 4000000 in
theorem sfx_C (w : World) (p : Program) (loose : List PySem.Str) (mean : ExcName → Option Value) (mg mb : PySem.Str → Option Value) (others : List (Addr × Obj)) (l : List Nat) (n : Int) (t1 t2 t3 : Tok) (hn : (l.length : Int) = n) (hz : n < 1000) (hp : n ≤ 8) (hx : ∀ y ∈ l, y < 128 ∧ y ≠ 10) :
    ClmX w p loose mean mg mb others 69 6 [.str ⟨l.toArray⟩ t1, .int 8 t2, .str (PySem.Str.ofString "Escaped character is not a Unicode scalar value") t3] (PySem.Str.ofString "Escaped character is not a Unicode scalar value (at end of document)") := by
  dsimp only [ClmX]
  k_fill
  intros
  rename_i hret
  refine wpAny_call ?_
  k_dflt cell_enter
  rename Frag.In _ _ => X9
  have C9 := codeHd69 X9
  k_steps
  all_goals (refine' hret _ ?a2 ?a3 _ _ ?a6 ?a7 ?a8 ?e1 ?e2 ?e3 ?e4 ?e5 ?e6; (case e3 => assumption); (case e5 => assumption); (case e1 => k_asm); (case e2 => (refine' drop3 ?n3; (case n3 => assumption))); (case e4 => assumption); (case e6 => exact sub_ne (by assumption)))


set_option maxHeartbeats 4000000 in
theorem sfx_D (w : World) (p : Program) (loose : List PySem.Str) (mean : ExcName → Option Value) (mg mb : PySem.Str → Option Value) (others : List (Addr × Obj)) (l : List Nat) (n : Int) (t1 t2 t3 : Tok) (hn : (l.length : Int) = n) (hz : n < 1000) (hp : 8 < n) (hx : ∀ y ∈ l, y < 128 ∧ y ≠ 10) :
    ClmX w p loose mean mg mb others 69 6 [.str ⟨l.toArray⟩ t1, .int 8 t2, .str (PySem.Str.ofString "Escaped character is not a Unicode scalar value") t3] (PySem.Str.ofString "Escaped character is not a Unicode scalar value (at line 1, column 9)") := by
  dsimp only [ClmX]
  k_fill
  intros
  rename_i hret
  refine wpAny_call ?_
  k_dflt cell_enter
  rename Frag.In _ _ => X9
  have C9 := codeHd69 X9
  k_steps
  all_goals (refine' hret _ ?a2 ?a3 _ _ ?a6 ?a7 ?a8 ?e1 ?e2 ?e3 ?e4 ?e5 ?e6; (case e3 => assumption); (case e5 => assumption); (case e1 => k_asm); (case e2 => (refine' drop3 ?n3; (case n3 => assumption))); (case e4 => assumption); (case e6 => exact sub_ne (by assumption)))


end Mine
end
theorem Mine.rs_Y3 : True := by (w_top off; k_with_none; trivial)

section
open PySem PySem.W PyProof.Rows PySem.Calls PySem.Spec
set_option Elab.async false
set_option maxRecDepth 100000
set_option linter.unusedVariables false
namespace Mine
section
variable {w : World} {A A₀ : Around} {E : Value → Shared → Prop} {s : Shared} {Q : Value → Shared → Prop} {base h₀ : Heap} {outer : List Env} {L : Addr} {m : PySem.Str → Option Value} {news : List (Addr × Obj)}
theorem fz_here (Z : FzAt w base) (B : Below A₀ base outer h₀) (F : Fr h₀ L s.heap m) : FzAt w s.heap :=
  let ⟨es, n, t, z, a, b⟩ := Z; ⟨es, n, t, z, a, F.keep _ _ (B.stays _ _ b)⟩
theorem r_issupL {l : List Nat} {b : Bool} {t₀ : Tok} (hh : A.handled = none) (Z : FzAt w base) (B : Below A₀ base outer h₀) (F : Fr h₀ L s.heap m) (N : News h₀ L s.heap news) (ha : ∀ y ∈ l, y < 128) (hb : l.all HexSign = b)
    (h : ∀ h' tk', Fr h₀ L h' m → News h₀ L h' news → Q (.bool b) { s with heap := h', toks := tk' }) :
    wpAny (model PySem.Challenge.rw_qh0008_01.row.prog w) A (call (.builtin "frozenset.issuperset") [.ref 39, .str ⟨l.toArray⟩ t₀]) Q E s := by
  obtain ⟨es, n, t, z, a, e⟩ := fz_here Z B F
  refine r_issup hh e z a ?_ fun h' tk' k => ?_
  · simpa using ha
  · have : (⟨l.toArray⟩ : PySem.Str).cps.toList.all HexSign = b := by simpa using hb
    rw [this]
    exact h h' tk' (F.keeps k) (N.grown k)
theorem r_gm_issupL {pl : Sem Bool} {Q : Value × List Value → Shared → Prop} {M : Model} (Z : FzAt w base) (B : Below A₀ base outer h₀) (F : Fr h₀ L s.heap m) (h : Q (.builtin "frozenset.issuperset", [.ref 39]) s) :
    wpAny M A (getMethod (.ref 39) (PySem.Str.ofString "issuperset") pl) Q E s := by
  obtain ⟨es, n, t, z, a, e⟩ := fz_here Z B F
  exact r_gm_issup e h
theorem raiseAt_of {e t : Addr} {vs : List Value} (X : (hd.heap_39 w.params).In h₀) (F : Fr h₀ L s.heap m) (N : News h₀ L s.heap ((e, excO t) :: (t, tupO vs) :: news)) (h : E (.ref e) s) : RaiseAt E w (.ref e) s :=
  ⟨e, t, rfl, X.keeps F.keep, (N _ (.head _)).1, h⟩
end
section
variable {M : Model} {A : Around} {E : Value → Shared → Prop} {s' : Shared} {base g : Heap} {outer : List Env} {L a e t : Addr} {m : PySem.Str → Option Value} {name : PySem.Str} {scope : Scope} {cd : Value} {Q : Unit → Shared → Prop} {news : List (Addr × Obj)}
theorem leave_own {vs : List Value} (K : Below A base outer g) (F : Fr g L s'.heap m) (N : News g L s'.heap ((e, excO t) :: (t, tupO vs) :: news)) (ne : e ≠ t) (off : ∀ p ∈ news, p.1 ≠ e ∧ p.1 ≠ t)
    (hQ : ∀ h' t', RaisedS base g outer e (.ref 52) t' vs news h' → g.UpToSlots h' → Q () { s' with heap := h' }) (hk : scope.kind = .function := by rfl) :
    wpAny M (A.deeper (envOf name scope L a cd)) (leaving (envOf name scope L a cd) (.ref e)) Q E s' := by
  have He := N (e, excO t) (.head _)
  have Ht := N (t, tupO vs) (.tail _ (.head _))
  have out : ∀ b, b ≠ e → b ≠ t → b ∉ [e, t] := fun b h1 h2 q => by
    rcases List.mem_cons.mp q with q | q
    · exact h1 q
    · exact h2 (List.mem_singleton.mp q)
  have hx : Heap.MadeExcOf (hideAll s'.heap [e, t]) s'.heap e (.ref 52) vs := ⟨fun b o q => of_hideAll _ q, hideAll_none _ (.head _), t, He.1, hideAll_none _ (.tail _ (.head _)), Ht.1⟩
  obtain ⟨oL, es, ep, hL, r⟩ := F.ns
  have F' : Fr g L (hideAll s'.heap [e, t]) m := ⟨⟨oL, es, ep, hideAll_get _ hL (out L (Ne.symm He.2.1) (Ne.symm Ht.2.1)), r⟩, fun b o q => hideAll_get _ (F.keep b o q) (out b (fun z => by rw [z] at q; have := He.2.2; dsimp only at this; rw [q] at this; cases this) (fun z => by rw [z] at q; have := Ht.2.2; dsimp only at this; rw [q] at this; cases this)), F.above⟩
  have N' : News g L (hideAll s'.heap [e, t]) news := fun p hp => ⟨hideAll_get _ (N p (.tail _ (.tail _ hp))).1 (out _ (off p hp).1 (off p hp).2), (N p (.tail _ (.tail _ hp))).2⟩
  exact leave_raiseS K hx F' N' (fun h' t' R _ U => hQ h' t' R U) hk
end
section
variable {prog : Program} {w : World} {A : Around} {E : Value → Shared → Prop} {s : Shared} {Q : Value → Shared → Prop} {value slice : Expr} {h₀ : Heap} {L : Addr} {m : PySem.Str → Option Value} {news : List (Addr × Obj)}
theorem r_sliceSS {x y : PySem.Str} {t : Tok} {i j : Int} {ui uj : Tok} (hF : Fr h₀ L s.heap m) (hN : News h₀ L s.heap news) (e : Txt.slice x (some i) (some j) = y) (hsz : x.length ≤ sizeLine) (h : ∀ h' t' k, Fr h₀ L h' m → News h₀ L h' news → Q (.str y t') { s with heap := h', toks := k })
    (hs : subscripted slice false (.str x t) (.ref s.heap.objs.size) = operate [.ref s.heap.objs.size, .str x t] (getItem (.str x t) (.ref s.heap.objs.size)) := by with_unfolding_all rfl)
    (ht : ∀ r, letTemporaryGo value (.str x t) r = pure () := by intro _; with_unfolding_all rfl) :
    wpAny (model prog w) A (subscriptTail value slice (.str x t) (.ref s.heap.objs.size)) Q E { s with heap := s.heap.push { cls := .type "slice", data := .fields #[.int i ui, .int j uj, .none] } } := by
  subst e
  exact slice_strN_ss hF hN h hs ht hsz
theorem r_neSame {a : Int} {t u : Tok} (h : Q (.bool false) s) : wpAny (model prog w) A (compareOp .NotEq (.int a t) (.int a u)) Q E s := PyProof.Rows.ne_int (by simpa using h)
theorem r_neDiff {a b : Int} {t u : Tok} (e : a ≠ b) (h : Q (.bool true) s) : wpAny (model prog w) A (compareOp .NotEq (.int a t) (.int b u)) Q E s := by
  refine PyProof.Rows.ne_int ?_
  have e2 : (a != b) = true := by simpa using e
  rw [e2]
  exact h
theorem r_int16v {cs : List Nat} {v : Int} {t tb : Tok} (hl : cs.length ≤ 640) (hx : cs.all HexSign = true) (hne : cs ≠ []) (hv : (hexVal cs : Int) = v) (h : Q (.int v s.toks) { s with toks := s.toks + 1 }) :
    wpAny (model prog w) A (call (.type "int") [.str ⟨cs.toArray⟩ t, .int 16 tb]) Q E s := by
  subst hv
  exact r_int16 hl hx hne h
theorem r_chr {v : Int} {y : Nat} {t : Tok} (h0 : 0 ≤ v) (h1 : v ≤ 1114111) (hy : v.toNat = y) (h : Q (.str ⟨[y].toArray⟩ s.toks) { s with toks := s.toks + 1 }) : wpAny (model prog w) A (call (.builtin "chr") [.int v t]) Q E s := by
  subst hy
  exact chr_of_range h0 h1 h
end
/-- parse_hex_char, where it hands back the place and the sign -/
abbrev ClmQ (w : World) (p : Program) (loose : List PySem.Str) (mean : ExcName → Option Value) (mg mb : PySem.Str → Option Value) (news : List (Addr × Obj)) (f : Addr) (lv : Nat) (vs : List Value) (e : Int) (y : Nat) : Prop :=
  ∀ (dp un : Nat) (gd : Option (List Code)) (cn : PySem.Str) (cs : Scope) (a : Addr) (ccd : Value) (cl : List (PySem.Str × Addr)) (outer : List Env) (A₀ : Around) (base h₀ : Heap) (L : Addr) (m : PySem.Str → Option Value) (s : Shared) (Q E : Value → Shared → Prop),
    Below A₀ base outer h₀ → Fr h₀ L s.heap m → (hd.heap_39 w.params).In h₀ → News h₀ L s.heap news → Top p loose mean mg mb h₀ → cs.kind = .function → FzAt w base → dp + lv < recursionLimit → un + 8 * lv < cLine →
    (∀ (D : Addr) (t u : Tok) (h' : Heap) (tk' : Nat), Fr h₀ L h' m → News h₀ L h' ((D, tupO [.int e t, .str ⟨[y].toArray⟩ u]) :: news) → (∀ q ∈ news, q.1 < D) → Q (.ref D) { s with heap := h', toks := tk' }) →
    wpAny (model PySem.Challenge.rw_qh0008_01.row.prog w) (ktrTop dp un gd cn cs L a ccd cl outer) (call (.ref f) vs) Q E s
/-- parse_hex_char, where it refuses -/
abbrev ClmE (w : World) (p : Program) (loose : List PySem.Str) (mean : ExcName → Option Value) (mg mb : PySem.Str → Option Value) (others : List (Addr × Obj)) (f : Addr) (lv : Nat) (vs : List Value) (msg : PySem.Str) : Prop :=
  ∀ (dp un : Nat) (gd : Option (List Code)) (cn : PySem.Str) (cs : Scope) (a : Addr) (ccd : Value) (cl : List (PySem.Str × Addr)) (outer : List Env) (A₀ : Around) (base h₀ : Heap) (L : Addr) (m : PySem.Str → Option Value) (s : Shared) (Q E : Value → Shared → Prop) (ps : Array Value) (c : Addr) (oc : Obj),
    Below A₀ base outer h₀ → Fr h₀ L s.heap m → (hd.heap_39 w.params).In h₀ → News h₀ L s.heap ((64, tabObj ps) :: (c, oc) :: others) → Top p loose mean mg mb h₀ → cs.kind = .function → FzAt w base → dp + lv < recursionLimit → un + 8 * lv < cLine → Wrm ps c oc → Off c others →
    (∀ (e t : Addr) (u : Tok) (g h' : Heap) (tk' : Nat) (ps' : Array Value) (c' : Addr) (oc' : Obj), Fr h₀ L g m → RaisedS base g (envX cn cs L a ccd cl :: outer) e (.ref 52) t [.str msg u] ((64, tabObj ps') :: (c', oc') :: others) h' → g.UpToSlots h' → Wrm ps' c' oc' → Off c' others →
      E (.ref e) { s with heap := h', toks := tk' }) →
    wpAny (model PySem.Challenge.rw_qh0008_01.row.prog w) (ktrTop dp un gd cn cs L a ccd cl outer) (call (.ref f) vs) Q E s
end Mine
end
theorem Mine.rs_Y4 : True := by (w_top off; k_with_none; trivial)

section
open PySem PySem.W PyProof.Rows
set_option Elab.async false
set_option maxRecDepth 100000
set_option linter.unusedVariables false
namespace Mine
theorem scalar_at (w : World) (p : Program) (loose : List PySem.Str) (mean : ExcName → Option Value) (mg mb : PySem.Str → Option Value) (news : List (Addr × Obj)) (x : Int) (b : Bool) (t : Tok) (h : ((decide (0 ≤ x) && decide (x ≤ 55295)) || (decide (57344 ≤ x) && decide (x ≤ 1114111))) = b) :
    Clm w p loose mean mg mb news 76 2 [.int x t] (fun _ => .bool b) := h ▸ scalar_spec w p loose mean mg mb news x t


theorem sfx_use {w : World} {p : Program} {loose : List PySem.Str} {mean : ExcName → Option Value} {mg mb : PySem.Str → Option Value} {others : List (Addr × Obj)} {src msg res : PySem.Str} {pe : Int} {t1 t2 t3 : Tok} (hS : ∀ others t1 t2 t3, ClmX w p loose mean mg mb others 69 6 [.str src t1, .int pe t2, .str msg t3] res) :
    ClmX w p loose mean mg mb others 69 6 [.str src t1, .int pe t2, .str msg t3] res := hS _ _ _ _
theorem kwY5_1 : True := by
  k_with_none
  (k_with "storeName" => (k_here; (try dsimp only); k_dflt (refine' storeX_P ?F ?N ?_ ?a ?b; (case F => k_asm); (case N => k_asm); (case a => rfl); (case b => rfl); k_whole); intro m' h' tk' F' N'; (try k_sweep)))
  (k_with "storeName" => (k_here; (try dsimp only); (with_reducible show wpAny _ _ (storeName _ _ (Value.int _ (HAdd.hAdd _ _))) _ _ _); k_dflt (refine' storeX_I ?F ?N ?_ ?a ?b; (case F => k_asm); (case N => k_asm); (case a => rfl); (case b => rfl); k_whole); intro t' m' h' tk' F' N'; (try k_sweep)))
  (k_with "storeName" => (k_here; (try dsimp only); (with_reducible show wpAny _ _ (storeName _ _ (Value.str _ (HAdd.hAdd _ _))) _ _ _); k_dflt (refine' storeX_S ?F ?N ?_ ?a ?b; (case F => k_asm); (case N => k_asm); (case a => rfl); (case b => rfl); k_whole); intro t' m' h' tk' F' N'; (try k_sweep)))
  (k_with "subscriptTail Name Slice str ref" => (k_here; k_dflt (refine' r_sliceSS ?F ?N ?e ?z ?_; (case F => k_asm); (case N => k_asm); (case e => assumption); (case z => assumption); k_whole); intro h' t' k' F' N'))
  (k_with "call builtin:len" => (k_here; (refine' r_lenS ?q1 ?q2 ?_; (case q1 => assumption); (case q2 => omega))))
  (k_with "getMethod ref" => (k_here; (with_reducible show wpAny _ _ (getMethod (Value.ref 39) _ _) _ _ _); k_dflt (refine' r_gm_issupL ?z ?B ?F ?_; (case z => assumption); (case B => assumption); (case F => k_asm); k_whole)))
  (k_with "call builtin:frozenset.issuperset" => (k_here; k_dflt (refine' r_issupL ?hh ?Z ?B ?F ?N ?ha ?hb ?_; (case hh => with_unfolding_all rfl); (case Z => assumption); (case B => assumption); (case F => k_asm); (case N => k_asm); (case ha => assumption); (case hb => assumption); k_whole); intro h' tk' F' N'))
  (k_with "call type:int" => (k_here; (refine' r_int16v ?q1 ?q2 ?q3 ?q4 ?_; (case q1 => omega); (case q2 => assumption); (case q3 => assumption); (case q4 => assumption))))
  (k_with "call builtin:chr" => (k_here; (refine' r_chr ?q1 ?q2 ?q3 ?_; (case q1 => omega); (case q2 => omega); (case q3 => assumption))))
  (k_with "compareOp NotEq int int" => (k_here; (first | (with_reducible refine r_neSame ?_) | (refine' r_neDiff ?q1 ?_; (case q1 => with_reducible assumption)))))
  (k_with "exec Raise some none" => (k_here; k_dflt (refine' x_raise ?q1 ?_; (case q1 => with_unfolding_all rfl); k_whole)))
  (k_with "RaiseAt" => (k_here; k_dflt (refine' raiseAt_of ?X ?F ?N ?_; (case X => k_asm); (case F => k_asm); (case N => k_asm); k_whole)))
  (k_with "leaving ref" => (k_here; k_dflt (refine' leave_own ?K ?F ?N ?ne ?of ?_; (case K => assumption); (case F => k_asm); (case N => k_asm); (case ne => assumption); (case of => assumption); k_whole); intro h' t' R' U'))
  (k_with "call ref" => (k_here; (with_reducible show wpAny _ _ (call (Value.ref 69) _) _ _ _); k_dflt (refine' sfx_use ?hS _ _ _ _ _ _ _ _ _ _ _ _ _ _ _ _ _ _ _ _ ?k1 ?k2 ?k3 ?k4 ?k5 ?kK ?kz ?kd ?ku ?kW ?kO ?_; (case hS => assumption); (case k1 => k_asm); (case k2 => k_asm); (case k3 => k_asm); (case k4 => k_asm); (case k5 => k_asm); (case kK => first | exact rfl | assumption); (case kz => assumption); (case kd => first | omega | ktr_room); (case ku => first | omega | ktr_units); (case kW => assumption); (case kO => assumption); k_whole); intro e9 t9 u9 h9 tk9 ps9 c9 oc9 F9 N9 W9 O9 ne9 l9; (try dsimp only); (try k_fold)))
  (k_with "call ref" => (k_here; (with_reducible show wpAny _ _ (call (Value.ref 76) _) _ _ _); (refine' scalar_at _ _ _ _ _ _ _ _ _ _ ?q0 _ _ _ _ _ _ _ _ _ _ _ _ _ _ _ _ _ ?k1 ?k2 ?k3 ?k4 ?k5 ?kK ?kz ?kd ?ku ?_; (case q0 => assumption); (case k1 => k_asm); (case k2 => k_asm); (case k3 => k_asm); (case k4 => k_asm); (case k5 => k_asm); (case kK => first | exact rfl | assumption); (case kz => assumption); (case kd => first | omega | ktr_room); (case ku => first | omega | ktr_units); intro t9 h9 tk9 F9 N9; (try dsimp only); (try k_fold))))
  trivial
set_option maxHeartbeats 4000000 in
theorem parse_ok (w : World) (p : Program) (loose : List PySem.Str) (mean : ExcName → Option Value) (mg mb : PySem.Str → Option Value) (news : List (Addr × Obj)) (l sub : List Nat) (q n pe : Int) (t1 t2 t3 : Tok) (hpe : q + n = pe) (hs : Txt.slice ⟨l.toArray⟩ (some q) (some (q + n)) = ⟨sub.toArray⟩) (hz : (⟨l.toArray⟩ : PySem.Str).length ≤ sizeLine) (v : Int) (y : Nat) (hn : (sub.length : Int) = n) (hn2 : n < 100) (h7 : ∀ y ∈ sub, y < 128) (hx : sub.all HexSign = true) (hne : sub ≠ []) (hv : (hexVal sub : Int) = v) (h0 : 0 ≤ v) (h1 : v ≤ 1114111) (hsc : ((decide (0 ≤ v) && decide (v ≤ 55295)) || (decide (57344 ≤ v) && decide (v ≤ 1114111))) = true) (hy : v.toNat = y) :
    ClmQ w p loose mean mg mb news 62 9 [.str ⟨l.toArray⟩ t1, .int q t2, .int n t3] (q + n) y := by
  subst hpe
  dsimp only [ClmQ]
  k_fill
  intros
  rename_i hret
  refine wpAny_call ?_
  k_dflt cell_enter
  k_steps
  all_goals (refine' hret _ _ _ _ _ ?e1 ?e2 ?e3; (case e1 => k_asm); (case e2 => k_asm); (case e3 => assumption))

set_option maxHeartbeats 4000000 in
theorem parse_bl (w : World) (p : Program) (loose : List PySem.Str) (mean : ExcName → Option Value) (mg mb : PySem.Str → Option Value) (others : List (Addr × Obj)) (l sub : List Nat) (q n pe : Int) (t1 t2 t3 : Tok) (hpe : q + n = pe) (hs : Txt.slice ⟨l.toArray⟩ (some q) (some (q + n)) = ⟨sub.toArray⟩) (hz : (⟨l.toArray⟩ : PySem.Str).length ≤ sizeLine) (k : Int) (hn : (sub.length : Int) = k) (hn2 : k < 100) (hkn : k ≠ n) (res : PySem.Str) (hS : ∀ others t1 t2 t3, ClmX w p loose mean mg mb others 69 6 [.str ⟨l.toArray⟩ t1, .int q t2, .str (PySem.Str.ofString "Invalid hex value") t3] res) :
    ClmE w p loose mean mg mb others 62 9 [.str ⟨l.toArray⟩ t1, .int q t2, .int n t3] res := by
  subst hpe
  dsimp only [ClmE]
  k_fill
  intros
  rename_i hret
  refine wpAny_call ?_
  k_dflt cell_enter
  k_steps
  all_goals (refine' hret _ ?a2 ?a3 _ _ ?a6 ?a7 ?a8 ?a9 ?e1 ?e2 ?e3 ?e4 ?e5; (case e2 => assumption); (case e4 => assumption); (case e1 => assumption); (case e3 => assumption); (case e5 => assumption))

set_option maxHeartbeats 4000000 in
theorem parse_bs (w : World) (p : Program) (loose : List PySem.Str) (mean : ExcName → Option Value) (mg mb : PySem.Str → Option Value) (others : List (Addr × Obj)) (l sub : List Nat) (q n pe : Int) (t1 t2 t3 : Tok) (hpe : q + n = pe) (hs : Txt.slice ⟨l.toArray⟩ (some q) (some (q + n)) = ⟨sub.toArray⟩) (hz : (⟨l.toArray⟩ : PySem.Str).length ≤ sizeLine) (hn : (sub.length : Int) = n) (hn2 : n < 100) (h7 : ∀ y ∈ sub, y < 128) (hx : sub.all HexSign = false) (res : PySem.Str) (hS : ∀ others t1 t2 t3, ClmX w p loose mean mg mb others 69 6 [.str ⟨l.toArray⟩ t1, .int q t2, .str (PySem.Str.ofString "Invalid hex value") t3] res) :
    ClmE w p loose mean mg mb others 62 9 [.str ⟨l.toArray⟩ t1, .int q t2, .int n t3] res := by
  subst hpe
  dsimp only [ClmE]
  k_fill
  intros
  rename_i hret
  refine wpAny_call ?_
  k_dflt cell_enter
  k_steps
  all_goals (refine' hret _ ?a2 ?a3 _ _ ?a6 ?a7 ?a8 ?a9 ?e1 ?e2 ?e3 ?e4 ?e5; (case e2 => assumption); (case e4 => assumption); (case e1 => assumption); (case e3 => assumption); (case e5 => assumption))

set_option maxHeartbeats 4000000 in
theorem parse_ns (w : World) (p : Program) (loose : List PySem.Str) (mean : ExcName → Option Value) (mg mb : PySem.Str → Option Value) (others : List (Addr × Obj)) (l sub : List Nat) (q n pe : Int) (t1 t2 t3 : Tok) (hpe : q + n = pe) (hs : Txt.slice ⟨l.toArray⟩ (some q) (some (q + n)) = ⟨sub.toArray⟩) (hz : (⟨l.toArray⟩ : PySem.Str).length ≤ sizeLine) (v : Int) (hn : (sub.length : Int) = n) (hn2 : n < 100) (h7 : ∀ y ∈ sub, y < 128) (hx : sub.all HexSign = true) (hne : sub ≠ []) (hv : (hexVal sub : Int) = v) (hsc : ((decide (0 ≤ v) && decide (v ≤ 55295)) || (decide (57344 ≤ v) && decide (v ≤ 1114111))) = false) (res : PySem.Str) (hS : ∀ others t1 t2 t3, ClmX w p loose mean mg mb others 69 6 [.str ⟨l.toArray⟩ t1, .int (q + n) t2, .str (PySem.Str.ofString "Escaped character is not a Unicode scalar value") t3] res) :
    ClmE w p loose mean mg mb others 62 9 [.str ⟨l.toArray⟩ t1, .int q t2, .int n t3] res := by
  subst hpe
  dsimp only [ClmE]
  k_fill
  intros
  rename_i hret
  refine wpAny_call ?_
  k_dflt cell_enter
  k_steps
  all_goals (refine' hret _ ?a2 ?a3 _ _ ?a6 ?a7 ?a8 ?a9 ?e1 ?e2 ?e3 ?e4 ?e5; (case e2 => assumption); (case e4 => assumption); (case e1 => assumption); (case e3 => assumption); (case e5 => assumption))

end Mine
end
theorem Mine.rs_Y5 : True := by (w_top off; k_with_none; trivial)

section
open PySem PySem.W PyProof.Rows PySem.Calls PySem.Spec
set_option Elab.async false
set_option maxRecDepth 100000
set_option linter.unusedVariables false
namespace Mine
section
variable {prog : Program} {w : World} {A₀ A : Around} {s : Shared} {base h₀ g₀ : Heap} {outer : List Env} {L a : Addr} {m : PySem.Str → Option Value} {cn : PySem.Str} {cs : Scope} {ccd : Value} {cl : List (PySem.Str × Addr)} {news : List (Addr × Obj)} {K : Frag} {p : Program} {loose : List PySem.Str} {mean : ExcName → Option Value} {mg mb : PySem.Str → Option Value}
    {R : Result → Shared → Prop} {name qual : PySem.Str} {params : Arguments} {body : List Stmt} {scope : Scope} {dV kV doc pm cdv ct oc : Value} {an od : Option Addr} {osl : Array (Option Value)} {f : Addr} {args : Args} {binds : List (PySem.Str × Value)}
theorem ktX_enter (B : Below A₀ base outer h₀) (F : Fr h₀ L s.heap m) (N : News h₀ L s.heap news) (hA : A.frames = some (envX cn cs L a ccd cl :: outer)) (hck : cs.kind = .function) :
    ∃ oL es ep, (hideAll s.heap (news.map (·.1))).get? L = some oL ∧ oL.data = .dict es ep ∧ (∀ h', h'.get? L = some oL → Heap.Ns h' L m) ∧ (∀ (sl : Array (Option Value)) h', h'.get? L = some { oL with slots := sl } → Heap.Ns h' L m) ∧
      h₀.StaysIn (hideAll s.heap (news.map (·.1))) ∧ Below A base (envX cn cs L a ccd cl :: outer) (hideAll s.heap (news.map (·.1))) := by
  have nm : ∀ b o, h₀.get? b = some o → b ∉ news.map (·.1) := fun b o e q => by
    obtain ⟨p, hp, rfl⟩ := List.mem_map.mp q
    rw [(N p hp).2.2] at e; cases e
  have st : h₀.StaysIn (hideAll s.heap (news.map (·.1))) := fun b o e => hideAll_get _ (F.keep b o e) (nm b o e)
  obtain ⟨oL, es, ep, hL, hLd, hLk, hLf⟩ := F.ns
  have nL : L ∉ news.map (·.1) := fun q => by
    obtain ⟨p, hp, e⟩ := List.mem_map.mp q
    exact (N p hp).2.1 e
  have hLg := hideAll_get (news.map (·.1)) hL nL
  have B₁ := pushX (env := envX cn cs L a ccd cl) B F rfl hck
  exact ⟨oL, es, ep, hLg, hLd, fun h' e => ⟨oL, es, ep, e, hLd, hLk, hLf⟩, fun sl h' e => ⟨_, es, ep, e, hLd, hLk, hLf⟩, st, ⟨hA, fun b o e => st b o (B.stays b o e), funFrames_hideAll B₁.frames fun env he b hb hf => by
    cases he with
    | head => exact nL ((Option.some.inj hf : L = b) ▸ hb)
    | tail _ he =>
      obtain ⟨L₁, o₁, hf₁, ho₁⟩ := funFrames_in B.frames env he
      rw [hf₁] at hf
      exact nm L₁ o₁ ho₁ ((Option.some.inj hf : L₁ = b) ▸ hb)⟩⟩
theorem ktX_mem {L b : Addr} {cn : PySem.Str} {cs : Scope} {a : Addr} {ccd : Value} {cl : List (PySem.Str × Addr)} (hb : b ∈ [envX cn cs L a ccd cl].filterMap (·.frame)) : b = L := by
  simpa using hb
/-- a def with a try, called by a frame at the bottom -/
theorem code_defT (B : Below A₀ base [] h₀) (F : Fr h₀ L s.heap m) (X₀ : K.In h₀) (N : News h₀ L s.heap news) (T : Top p loose mean mg mb h₀) (hA : A.frames = some [envX cn cs L a ccd cl])
    (ho : K.lookup f = some ⟨oc, od, .func (fnOf name qual params body scope dV kV doc pm an cdv ct), osl⟩) (hcd : codeIn K cdv qual = true) (hroom : A.depth < recursionLimit)
    (hbind : BindsTo s (fnOf name qual params body scope dV kV doc pm an cdv ct) args binds) (hloc : ∀ y ∈ binds, scope.names.lookup y.1 = some .local)
    (h : ∀ g L' h₁, Fr h₀ L g m → Fr g L' h₁ (fun y => binds.reverse.lookup y) → News g L' h₁ news → Below A base [envX cn cs L a ccd cl] g → K.In g → Top p loose mean mg mb g → KtsDicts ([envX cn cs L a ccd cl].filterMap (·.frame)) g →
      wpAny (model prog w) (A.deeper (envOf qual scope L' f cdv)) (execs body (envOf qual scope L' f cdv))
        (fun fl s' => LeaveS0 ([envX cn cs L a ccd cl].filterMap (·.frame)) h₀ L m g R (match fl with | .ret v => v | _ => .none) s')
        (fun e s' => wpAny (model prog w) (A.deeper (envOf qual scope L' f cdv)) (leaving (envOf qual scope L' f cdv) e) (fun _ s'' => R (.error e) s'') (fun e' s'' => R (.error e') s'') s')
        { s with heap := h₁, toks := s.toks + binds.length })
    (hck : cs.kind = .function) (hco : scope.isCoroutine = false) (hgen : scope.isGenerator = false) (hk : scope.kind = .function)
    (hcell : ∀ x ∈ scope.names, x.2 ≠ .cell) : codeAny (model prog w) A (.call (.ref f) args) R s := by
  have X := X₀.keeps F.keep
  refine codeAny_call_def (fd := fnOf name qual params body scope dV kV doc pm an cdv ct) (body := body) (binds := binds) hroom (X _ _ ho) rfl (T.nolimit.keeps F.keep) (codeRec_of X hcd) rfl hbind hcell hloc (fun h₁ hns hk₁ => ?_) hco hgen hk
  obtain ⟨oL, es, ep, hLg, hLd, hN, hNs, st, B₂⟩ := ktX_enter B F N hA hck
  refine wpAny_mono (h _ s.heap.objs.size h₁ ⟨hN _ hLg, st, F.above⟩ ⟨hns, fun b o e => hk₁ b o (of_hideAll _ e), Nat.le_of_eq (hideAll_size _ _)⟩
    (fun p hp => ⟨hk₁ _ _ (N p hp).1, Nat.ne_of_lt (Heap.lt_size (N p hp).1), hideAll_none _ (List.mem_map_of_mem hp)⟩) B₂ (X₀.keeps st) (T.keeps st) (fun b hb => by
      obtain rfl := ktX_mem hb
      exact ⟨oL, es, ep, hLg, hLd⟩)) (fun fl s' hl => ?_) fun _ _ y => y
  obtain ⟨g', L', m', news', T', F', N', k⟩ := hl
  have nL₀ : h₀.get? L = none := kts_self F
  obtain ⟨sl, hs⟩ := T'.up hLg
  refine k ⟨hNs sl _ (F'.keep _ _ hs), fun b o e => F'.keep b o (T'.other b o (st b o e) (fun q => by
    rw [ktX_mem q, nL₀] at e
    cases e)), F.above⟩ fun p hp => ⟨(N' p hp).1, fun q => ?_, ?_⟩
  · have := (N' p hp).2.2; rw [q, hs] at this; cases this
  · cases q : h₀.get? p.1 with
    | none => rfl
    | some o =>
      obtain ⟨sl', hs'⟩ := T'.up (st _ _ q)
      have := (N' p hp).2.2
      rw [hs'] at this
      cases this
end
/-- _law_told, where the sign is told -/
abbrev ClmTQ (w : World) (p : Program) (loose : List PySem.Str) (mean : ExcName → Option Value) (mg mb : PySem.Str → Option Value) (news : List (Addr × Obj)) (f : Addr) (lv : Nat) (vs : List Value) (e : Int) (y : Nat) : Prop :=
  ∀ (dp un : Nat) (gd : Option (List Code)) (cn : PySem.Str) (cs : Scope) (a : Addr) (ccd : Value) (cl : List (PySem.Str × Addr)) (A₀ : Around) (h₀ : Heap) (L : Addr) (m : PySem.Str → Option Value) (s : Shared) (Q E : Value → Shared → Prop),
    Below A₀ h₀ [] h₀ → Fr h₀ L s.heap m → (hd.heap_39 w.params).In h₀ → News h₀ L s.heap news → Top p loose mean mg mb h₀ → cs.kind = .function → FzAt w h₀ → dp + lv < recursionLimit → un + 8 * lv < cLine →
    (∀ (D : Addr) (t u : Tok) (h' : Heap) (tk' : Nat), Fr h₀ L h' m → News h₀ L h' ((D, tupO [.int e t, .str ⟨[y].toArray⟩ u]) :: news) → (∀ q ∈ news, q.1 < D) → Q (.ref D) { s with heap := h', toks := tk' }) →
    wpAny (model PySem.Challenge.rw_qh0008_01.row.prog w) (ktrTop dp un gd cn cs L a ccd cl []) (call (.ref f) vs) Q E s
/-- _law_told, where the sign is refused -/
abbrev ClmTE (w : World) (p : Program) (loose : List PySem.Str) (mean : ExcName → Option Value) (mg mb : PySem.Str → Option Value) (others : List (Addr × Obj)) (f : Addr) (lv : Nat) (vs : List Value) (msg : PySem.Str) : Prop :=
  ∀ (dp un : Nat) (gd : Option (List Code)) (cn : PySem.Str) (cs : Scope) (a : Addr) (ccd : Value) (cl : List (PySem.Str × Addr)) (A₀ : Around) (h₀ : Heap) (L : Addr) (m : PySem.Str → Option Value) (s : Shared) (Q E : Value → Shared → Prop) (ps : Array Value) (c : Addr) (oc : Obj),
    Below A₀ h₀ [] h₀ → Fr h₀ L s.heap m → (hd.heap_39 w.params).In h₀ → News h₀ L s.heap ((64, tabObj ps) :: (c, oc) :: others) → Top p loose mean mg mb h₀ → cs.kind = .function → FzAt w h₀ → dp + lv < recursionLimit → un + 8 * lv < cLine → Wrm ps c oc → Off c others →
    (∀ (u : Tok) (h' : Heap) (tk' : Nat) (ps' : Array Value) (c' : Addr) (oc' : Obj), Fr h₀ L h' m → News h₀ L h' ((64, tabObj ps') :: (c', oc') :: others) → Wrm ps' c' oc' → Off c' others → Q (.str msg u) { s with heap := h', toks := tk' }) →
    wpAny (model PySem.Challenge.rw_qh0008_01.row.prog w) (ktrTop dp un gd cn cs L a ccd cl []) (call (.ref f) vs) Q E s
/-- contracts taken by an assumption -/
theorem pq_use {w : World} {p : Program} {loose : List PySem.Str} {mean : ExcName → Option Value} {mg mb : PySem.Str → Option Value} {news : List (Addr × Obj)} {src : PySem.Str} {q n e : Int} {y : Nat} {t1 t2 t3 : Tok} (hS : ∀ news t1 t2 t3, ClmQ w p loose mean mg mb news 62 9 [.str src t1, .int q t2, .int n t3] e y) :
    ClmQ w p loose mean mg mb news 62 9 [.str src t1, .int q t2, .int n t3] e y := hS _ _ _ _
theorem pe_use {w : World} {p : Program} {loose : List PySem.Str} {mean : ExcName → Option Value} {mg mb : PySem.Str → Option Value} {others : List (Addr × Obj)} {src msg : PySem.Str} {q n : Int} {t1 t2 t3 : Tok} (hS : ∀ others t1 t2 t3, ClmE w p loose mean mg mb others 62 9 [.str src t1, .int q t2, .int n t3] msg) :
    ClmE w p loose mean mg mb others 62 9 [.str src t1, .int q t2, .int n t3] msg := hS _ _ _ _
end Mine
end
theorem Mine.rs_Y6 : True := by (w_top off; k_with_none; trivial)

section
open PySem PySem.W PyProof.Rows
set_option Elab.async false
set_option maxRecDepth 100000
set_option linter.unusedVariables false
namespace Mine

theorem kwY7_1 : True := by
  k_with_none
  (k_with "storeName" => (k_here; (try dsimp only); k_dflt (refine' storeX_P ?F ?N ?_ ?a ?b; (case F => k_asm); (case N => k_asm); (case a => rfl); (case b => rfl); k_whole); intro m' h' tk' F' N'; (try k_sweep)))
  (k_with "storeName" => (k_here; (try dsimp only); (with_reducible show wpAny _ _ (storeName _ _ (Value.int _ (HAdd.hAdd _ _))) _ _ _); k_dflt (refine' storeX_I ?F ?N ?_ ?a ?b; (case F => k_asm); (case N => k_asm); (case a => rfl); (case b => rfl); k_whole); intro t' m' h' tk' F' N'; (try k_sweep)))
  (k_with "storeName" => (k_here; (try dsimp only); (with_reducible show wpAny _ _ (storeName _ _ (Value.str _ (HAdd.hAdd _ _))) _ _ _); k_dflt (refine' storeX_S ?F ?N ?_ ?a ?b; (case F => k_asm); (case N => k_asm); (case a => rfl); (case b => rfl); k_whole); intro t' m' h' tk' F' N'; (try k_sweep)))
  (k_with "call ref" => (k_here; (with_reducible show wpAny _ _ (call (Value.ref 62) _) _ _ _); k_dflt (refine' pq_use ?hS _ _ _ _ _ _ _ _ _ _ _ _ _ _ _ _ _ ?k1 ?k2 ?k3 ?k4 ?k5 ?kK ?kz ?kd ?ku ?_; (case hS => assumption); (case k1 => k_asm); (case k2 => k_asm); (case k3 => k_asm); (case k4 => k_asm); (case k5 => k_asm); (case kK => first | exact rfl | assumption); (case kz => assumption); (case kd => first | omega | ktr_room); (case ku => first | omega | ktr_units); k_whole); intro e9 t9 u9 h9 tk9 F9 N9 l9; (try k_lt l9); (try dsimp only); (try k_fold)))
  (k_with "call ref" => (k_here; (with_reducible show wpAny _ _ (call (Value.ref 62) _) _ _ _); k_dflt (refine' pe_use ?hS _ _ _ _ _ _ _ _ _ _ _ _ _ _ _ _ _ _ _ _ ?k1 ?k2 ?k3 ?k4 ?k5 ?kK ?kz ?kd ?ku ?kW ?kO ?_; (case hS => assumption); (case k1 => k_asm); (case k2 => k_asm); (case k3 => k_asm); (case k4 => k_asm); (case k5 => k_asm); (case kK => first | exact rfl | assumption); (case kz => assumption); (case kd => first | omega | ktr_room); (case ku => first | omega | ktr_units); (case kW => assumption); (case kO => assumption); k_whole); intro e9 t9 u9 g9 h9 tk9 ps9 c9 oc9 F9 R9 U9 W9 O9; (try dsimp only); (try k_fold)))
  (k_with "call type:str" => (k_here; (with_reducible show wpAny _ _ (call (Value.type "str") [Value.ref _]) _ _ _); k_dflt (refine' x_str ?X ?F ?N ?G ?u ?_; (case G => assumption); (case X => k_asm); (case F => k_asm); (case N => assumption); (case u => first | omega | ktr_units); k_whole)))
  trivial
set_option maxHeartbeats 4000000 in
theorem told_ok (w : World) (p : Program) (loose : List PySem.Str) (mean : ExcName → Option Value) (mg mb : PySem.Str → Option Value) (news : List (Addr × Obj)) (src : PySem.Str) (q n : Int) (t1 t2 t3 : Tok) (e : Int) (y : Nat) (hS : ∀ news t1 t2 t3, ClmQ w p loose mean mg mb news 62 9 [.str src t1, .int q t2, .int n t3] e y) :
    ClmTQ w p loose mean mg mb news 217 12 [.str src t1, .int q t2, .int n t3] e y := by
  dsimp only [ClmTQ]
  k_fill
  intros
  rename_i hret
  refine wpAny_call ?_
  k_dflt (refine' code_defT ?k1 ?k2 ?k3 ?k4 ?k5 ?kA ?k6 ?k7 ?k8 ?k9 ?kB ?_ ?cK ?c2 ?c3 ?c4 ?c5; (case kA => exact rfl); (case k2 => k_asm); (case k1 => k_asm); (case k3 => k_asm); (case k4 => k_asm); (case k5 => k_asm); (case k6 => k_is); (case k7 => k_is); (case k8 => ktr_room); (case k9 => exact BindsTo.of_eq rfl); (case kB => exact locs rfl); (case cK => first | exact rfl | assumption); (case c2 => exact rfl); (case c3 => exact rfl); (case c4 => exact rfl); (case c5 => decide); k_whole; intro g' L' h' FG' F' N' B' X' T' D'; (try dsimp only); (try k_lift B'); (try k_fold))
  k_steps
  all_goals (refine' hret _ _ _ _ _ ?e1 ?e2 ?e3; (case e1 => k_asm); (case e2 => k_asm); (case e3 => assumption))

set_option maxHeartbeats 4000000 in
theorem told_no (w : World) (p : Program) (loose : List PySem.Str) (mean : ExcName → Option Value) (mg mb : PySem.Str → Option Value) (others : List (Addr × Obj)) (src : PySem.Str) (q n : Int) (t1 t2 t3 : Tok) (msg : PySem.Str) (hS : ∀ others t1 t2 t3, ClmE w p loose mean mg mb others 62 9 [.str src t1, .int q t2, .int n t3] msg) :
    ClmTE w p loose mean mg mb others 217 12 [.str src t1, .int q t2, .int n t3] msg := by
  dsimp only [ClmTE]
  k_fill
  intros
  rename_i hret
  refine wpAny_call ?_
  k_dflt (refine' code_defT ?k1 ?k2 ?k3 ?k4 ?k5 ?kA ?k6 ?k7 ?k8 ?k9 ?kB ?_ ?cK ?c2 ?c3 ?c4 ?c5; (case kA => exact rfl); (case k2 => k_asm); (case k1 => k_asm); (case k3 => k_asm); (case k4 => k_asm); (case k5 => k_asm); (case k6 => k_is); (case k7 => k_is); (case k8 => ktr_room); (case k9 => exact BindsTo.of_eq rfl); (case kB => exact locs rfl); (case cK => first | exact rfl | assumption); (case c2 => exact rfl); (case c3 => exact rfl); (case c4 => exact rfl); (case c5 => decide); k_whole; intro g' L' h' FG' F' N' B' X' T' D'; (try dsimp only); (try k_lift B'); (try k_fold))
  k_steps
  all_goals (refine' hret _ _ _ _ _ _ ?e1 ?e2 ?e3 ?e4; (case e3 => assumption); (case e4 => assumption); (case e1 => k_asm); (case e2 => k_asm))

end Mine
end
theorem Mine.rs_Y7 : True := by (w_top off; k_with_none; trivial)

section
open PySem PySem.W PyProof.Rows
set_option Elab.async false
set_option maxRecDepth 100000
set_option linter.unusedVariables false
namespace Mine
theorem str_fix {x y : PySem.Str} {t : Tok} {Q : Value → Shared → Prop} {s : Shared} (e : x = y) (h : Q (.str y t) s) : Q (.str x t) s := e ▸ h

theorem kwY8_1 : True := by
  k_with_none
  (k_with "storeName" => (k_here; (try dsimp only); k_dflt (refine' storeX_P ?F ?N ?_ ?a ?b; (case F => k_asm); (case N => k_asm); (case a => rfl); (case b => rfl); k_whole); intro m' h' tk' F' N'; (try k_sweep)))
  (k_with "storeName" => (k_here; (try dsimp only); (with_reducible show wpAny _ _ (storeName _ _ (Value.int _ (HAdd.hAdd _ _))) _ _ _); k_dflt (refine' storeX_I ?F ?N ?_ ?a ?b; (case F => k_asm); (case N => k_asm); (case a => rfl); (case b => rfl); k_whole); intro t' m' h' tk' F' N'; (try k_sweep)))
  (k_with "storeName" => (k_here; (try dsimp only); (with_reducible show wpAny _ _ (storeName _ _ (Value.str _ (HAdd.hAdd _ _))) _ _ _); k_dflt (refine' storeX_S ?F ?N ?_ ?a ?b; (case F => k_asm); (case N => k_asm); (case a => rfl); (case b => rfl); k_whole); intro t' m' h' tk' F' N'; (try k_sweep)))
  (k_with "call builtin:chr" => (k_here; (refine' r_chr ?q1 ?q2 ?q3 ?_; (case q1 => omega); (case q2 => omega); (case q3 => assumption))))
  trivial
set_option maxHeartbeats 4000000 in
theorem due_ok (w : World) (p : Program) (loose : List PySem.Str) (mean : ExcName → Option Value) (mg mb : PySem.Str → Option Value) (news : List (Addr × Obj)) (v e z : Int) (y : Nat) (t1 t2 t3 : Tok) (h0 : 0 ≤ v) (hv : v < 55296 ∨ (57343 < v ∧ v < 1114112)) (hy : v.toNat = y) :
    ClmQ w p loose mean mg mb news 224 3 [.int v t1, .int e t2, .int z t3] e y := by
  dsimp only [ClmQ]
  k_fill
  intros
  rename_i hret
  refine wpAny_call ?_
  k_dflt cell_enter
  k_steps
  all_goals (refine' hret _ _ _ _ _ ?e1 ?e2 ?e3; (case e1 => k_asm); (case e2 => k_asm); (case e3 => assumption))

set_option maxHeartbeats 4000000 in
theorem due_no0 (w : World) (p : Program) (loose : List PySem.Str) (mean : ExcName → Option Value) (mg mb : PySem.Str → Option Value) (news : List (Addr × Obj)) (v : Int) (t1 t2 t3 : Tok) (hv : 55296 ≤ v ∧ v ≤ 57343 ∨ 1114112 ≤ v):
    Clm w p loose mean mg mb news 224 3 [.int v t1, .int 4 t2, .int 8 t3]  (fun t => .str (PySem.Str.ofString "Escaped character is not a Unicode scalar value (at line 1, column 5)") t) := by
  dsimp only [Clm]
  k_fill
  intros
  rename_i hret
  refine wpAny_call ?_
  k_dflt cell_enter
  k_steps
  all_goals (refine' str_fix (y := PySem.Str.ofString "Escaped character is not a Unicode scalar value (at line 1, column 5)") ?em (hret _ _ _ ?e1 ?e2); (case em => decide +kernel); (case e1 => k_asm); (case e2 => k_asm))

set_option maxHeartbeats 4000000 in
theorem due_no1 (w : World) (p : Program) (loose : List PySem.Str) (mean : ExcName → Option Value) (mg mb : PySem.Str → Option Value) (news : List (Addr × Obj)) (v : Int) (t1 t2 t3 : Tok) (hv : 55296 ≤ v ∧ v ≤ 57343 ∨ 1114112 ≤ v):
    Clm w p loose mean mg mb news 224 3 [.int v t1, .int 8 t2, .int 8 t3]  (fun t => .str (PySem.Str.ofString "Escaped character is not a Unicode scalar value (at end of document)") t) := by
  dsimp only [Clm]
  k_fill
  intros
  rename_i hret
  refine wpAny_call ?_
  k_dflt cell_enter
  k_steps
  all_goals (refine' str_fix (y := PySem.Str.ofString "Escaped character is not a Unicode scalar value (at end of document)") ?em (hret _ _ _ ?e1 ?e2); (case em => decide +kernel); (case e1 => k_asm); (case e2 => k_asm))

set_option maxHeartbeats 4000000 in
theorem due_no2 (w : World) (p : Program) (loose : List PySem.Str) (mean : ExcName → Option Value) (mg mb : PySem.Str → Option Value) (news : List (Addr × Obj)) (v : Int) (t1 t2 t3 : Tok) (hv : 55296 ≤ v ∧ v ≤ 57343 ∨ 1114112 ≤ v):
    Clm w p loose mean mg mb news 224 3 [.int v t1, .int 8 t2, .int 9 t3]  (fun t => .str (PySem.Str.ofString "Escaped character is not a Unicode scalar value (at line 1, column 9)") t) := by
  dsimp only [Clm]
  k_fill
  intros
  rename_i hret
  refine wpAny_call ?_
  k_dflt cell_enter
  k_steps
  all_goals (refine' str_fix (y := PySem.Str.ofString "Escaped character is not a Unicode scalar value (at line 1, column 9)") ?em (hret _ _ _ ?e1 ?e2); (case em => decide +kernel); (case e1 => k_asm); (case e2 => k_asm))

end Mine
end
theorem Mine.rs_Y8 : True := by (w_top off; k_with_none; trivial)

section
open PySem PySem.W PyProof.Rows
set_option Elab.async false
set_option maxRecDepth 100000
set_option linter.unusedVariables false
namespace Mine
section
variable {prog : Program} {w : World} {A : Around} {E : Value → Shared → Prop} {s : Shared} {Q : Value → Shared → Prop}
theorem r_eqNo {a b : Int} {t u : Tok} (e : a ≠ b) (h : Q (.bool false) s) : wpAny (model prog w) A (compareOp .Eq (.int a t) (.int b u)) Q E s := by
  refine PyProof.Rows.eq_int ?_
  have e2 : (a == b) = false := by simpa using e
  rw [e2]
  exact h
theorem r_geNo {a b : Int} {t u : Tok} (e : 0 ≤ a ∧ a < b) (h : Q (.bool false) s) : wpAny (model prog w) A (compareOp .GtE (.int a t) (.int b u)) Q E s := by
  refine PyProof.Rows.ge_int ?_
  have e2 : decide (a ≥ b) = false := decide_eq_false (by omega)
  rw [e2]
  exact h
end

theorem kwY9_1 : True := by
  k_with_none
  (k_with "storeName" => (k_here; (try dsimp only); k_dflt (refine' storeX_P ?F ?N ?_ ?a ?b; (case F => k_asm); (case N => k_asm); (case a => rfl); (case b => rfl); k_whole); intro m' h' tk' F' N'; (try k_sweep)))
  (k_with "storeName" => (k_here; (try dsimp only); (with_reducible show wpAny _ _ (storeName _ _ (Value.int _ (HAdd.hAdd _ _))) _ _ _); k_dflt (refine' storeX_I ?F ?N ?_ ?a ?b; (case F => k_asm); (case N => k_asm); (case a => rfl); (case b => rfl); k_whole); intro t' m' h' tk' F' N'; (try k_sweep)))
  (k_with "storeName" => (k_here; (try dsimp only); (with_reducible show wpAny _ _ (storeName _ _ (Value.str _ (HAdd.hAdd _ _))) _ _ _); k_dflt (refine' storeX_S ?F ?N ?_ ?a ?b; (case F => k_asm); (case N => k_asm); (case a => rfl); (case b => rfl); k_whole); intro t' m' h' tk' F' N'; (try k_sweep)))
  (k_with "call ref" => (k_here; (with_reducible show wpAny _ _ (call (Value.ref 109) _) _ _ _); (refine' abuffer_spec _ _ _ _ _ _ _ _ _  _ _ _ _ _ _ _ _ _ _ _ _ _ _ _ _ _ ?k1 ?k2 ?k3 ?k4 ?k5 ?kK ?kz ?kd ?ku ?_; (case k1 => k_asm); (case k2 => k_asm); (case k3 => k_asm); (case k4 => k_asm); (case k5 => k_asm); (case kK => first | exact rfl | assumption); (case kz => assumption); (case kd => first | omega | ktr_room); (case ku => first | omega | ktr_units); intro t9 h9 tk9 F9 N9; (try dsimp only); (try k_fold))))
  (k_with "call ref" => (k_here; (with_reducible show wpAny _ _ (call (Value.ref 123) _) _ _ _); (refine' truth_spec _ _ _ _ _ _ _ _  _ _ _ _ _ _ _ _ _ _ _ _ _ _ _ _ _ ?k1 ?k2 ?k3 ?k4 ?k5 ?kK ?kz ?kd ?ku ?_; (case k1 => k_asm); (case k2 => k_asm); (case k3 => k_asm); (case k4 => k_asm); (case k5 => k_asm); (case kK => first | exact rfl | assumption); (case kz => assumption); (case kd => first | omega | ktr_room); (case ku => first | omega | ktr_units); intro t9 h9 tk9 F9 N9; (try dsimp only); (try k_fold))))
  (k_with "call ref" => (k_here; (with_reducible show wpAny _ _ (call (Value.ref 130) _) _ _ _); (refine' b64Value_at _ _ _ _ _ _ _ _ _ _ ?q0 _ _ _ _ _ _ _ _ _ _ _ _ _ _ _ _ _ ?k1 ?k2 ?k3 ?k4 ?k5 ?kK ?kz ?kd ?ku ?_; (case q0 => assumption); (case k1 => k_asm); (case k2 => k_asm); (case k3 => k_asm); (case k4 => k_asm); (case k5 => k_asm); (case kK => first | exact rfl | assumption); (case kz => assumption); (case kd => first | omega | ktr_room); (case ku => first | omega | ktr_units); intro t9 h9 tk9 F9 N9; (try dsimp only); (try k_fold))))
  (k_with "pyIter bytes" => (k_here; (with_reducible show wpAny _ _ (pyIter (Value.bytes _ _)) (fun it s₂ => LoopAtV _ _ _ _ _ _ _ _ _ it s₂) _ _); (rename Fr _ _ _ _ => lF'); (rename News _ _ _ _ => lN'); (with_unfolding_all refine iter_bytesUnr (by rfl) lF' lN' (bInts8n (by assumption) (by assumption) (by assumption) (by assumption) (by assumption) (by assumption) (by assumption) (by assumption)) ?_); clear lF' lN'; intro i' l1; (try k_lt l1)))
  (k_with "binaryOp BitAnd int int" => (k_here; (with_reducible refine' r_and ?q1 ?_; (case q1 => assumption))))
  (k_with "binaryOp BitOr int int" => (k_here; (with_reducible refine' r_or ?q1 ?_; (case q1 => assumption))))
  (k_with "compareOp Eq int int" => (k_here; (with_reducible refine' r_eqNo ?q1 ?_; (case q1 => with_reducible assumption))))
  (k_with "compareOp GtE int int" => (k_here; (with_reducible refine' r_geNo ?q1 ?_; (case q1 => with_reducible assumption))))
  (k_with "call type:bytes" => (k_here; (with_reducible show wpAny _ _ (call (Value.type "bytes") [Value.ref _]) _ _ _); k_dflt (refine' r_bytes ?F ?N ?l ?i ?r ?z ?h ?_; (case F => k_asm); (case N => k_asm); (case l => is_list); (case i => (simp only [List.concat_eq_append, Array.toList_push, List.nil_append, List.cons_append, List.append_assoc]; (repeat' (first | (with_reducible exact IntsAre.nil) | (with_reducible refine' IntsAre.cons _ _ ?_))))); (case r => (simp only [List.forall_mem_cons, List.not_mem_nil, false_implies, implies_true, and_true]; (repeat' (first | with_reducible assumption | exact ⟨by decide, by decide⟩ | refine And.intro ?_ ?_)))); (case z => first | exact Nat.le_of_ble_eq_true rfl | (simp only [List.length_cons, List.length_nil]; omega)); (case h => with_unfolding_all rfl); k_whole); intro h' t' k' F' N'))
  trivial
set_option maxHeartbeats 4000000 in
theorem a2b64_spec (w : World) (p : Program) (loose : List PySem.Str) (mean : ExcName → Option Value) (mg mb : PySem.Str → Option Value) (news : List (Addr × Obj)) (c0 c1 c2 c3 c4 c5 c6 c7 : UInt8) (k0 k1 k2 k3 k4 k5 d0 d1 d2 d3 d4 d5 w1 w2 w5 r0 r1 r2 r3 : Int) (t : Tok) (e0 : (c0.toNat : Int) = k0) (e1 : (c1.toNat : Int) = k1) (e2 : (c2.toNat : Int) = k2) (e3 : (c3.toNat : Int) = k3) (e4 : (c4.toNat : Int) = k4) (e5 : (c5.toNat : Int) = k5) (e6 : (c6.toNat : Int) = 61) (e7 : (c7.toNat : Int) = 61) (n0 : k0 ≠ 61) (f0 : b64Value k0 = d0) (g0 : 0 ≤ d0 ∧ d0 < 64) (n1 : k1 ≠ 61) (f1 : b64Value k1 = d1) (g1 : 0 ≤ d1 ∧ d1 < 64) (n2 : k2 ≠ 61) (f2 : b64Value k2 = d2) (g2 : 0 ≤ d2 ∧ d2 < 64) (n3 : k3 ≠ 61) (f3 : b64Value k3 = d3) (g3 : 0 ≤ d3 ∧ d3 < 64) (n4 : k4 ≠ 61) (f4 : b64Value k4 = d4) (g4 : 0 ≤ d4 ∧ d4 < 64) (n5 : k5 ≠ 61) (f5 : b64Value k5 = d5) (g5 : 0 ≤ d5 ∧ d5 < 64) (a0 : Builtin.bitOr (d0 * 2 ^ Int.toNat 2) (Int.fdiv d1 (2 ^ (4 : Int).toNat)) = r0) (m1 : Builtin.bitAnd d1 15 = w1) (a1 : Builtin.bitOr (w1 * 2 ^ Int.toNat 4) (Int.fdiv d2 (2 ^ (2 : Int).toNat)) = r1) (m2 : Builtin.bitAnd d2 3 = w2) (a2 : Builtin.bitOr (w2 * 2 ^ Int.toNat 6) d3 = r2) (a3 : Builtin.bitOr (d4 * 2 ^ Int.toNat 2) (Int.fdiv d5 (2 ^ (4 : Int).toNat)) = r3) (m5 : Builtin.bitAnd d5 15 = w5) (b1 : 0 ≤ w1 ∧ w1 < 16) (b2 : 0 ≤ w2 ∧ w2 < 4) (b5 : 0 ≤ w5 ∧ w5 < 16) (s0 : 0 ≤ r0 ∧ r0 < 256) (s1 : 0 ≤ r1 ∧ r1 < 256) (s2 : 0 ≤ r2 ∧ r2 < 256) (s3 : 0 ≤ r3 ∧ r3 < 256):
    ClmK w p loose mean mg mb news 138 4 [.bytes [c0, c1, c2, c3, c4, c5, c6, c7].toArray t] [(PySem.Str.ofString "strict_mode", .bool false)] (fun t => .bytes (byteArr [r0, r1, r2, r3]) t) := by
  dsimp only [ClmK]
  k_fill
  intros
  rename_i hret
  refine wpAny_call ?_
  k_dflt (refine' code_defP ?k1 ?k2 ?k3 ?k4 ?k5 ?kA ?kF ?kK ?k6 ?k7 ?k8 ?k9 ?kB ?_ ?c2 ?c3 ?c4 ?c5; (case kA => exact rfl); (case kF => exact rfl); (case kK => first | exact rfl | assumption); (case k1 => k_asm); (case k2 => k_asm); (case k3 => k_asm); (case k4 => k_asm); (case k5 => k_asm); (case k6 => k_is); (case k7 => k_is); (case k8 => ktr_room); (case k9 => (refine' kp_binds ?kx ?ke; (case kx => k_in); (case ke => exact fun _ => rfl))); (case c5 => decide); (case kB => exact locs rfl); (case c2 => exact rfl); (case c3 => exact rfl); (case c4 => exact rfl); k_whole; intro g' L' h' FG' F' N' B' X' T'; (try dsimp only); (try k_lift B'); (try k_fold))
  k_steps
  all_goals (unfold RN; intro N9; refine hret _ _ _ ?e2 N9; (case e2 => k_asm))

end Mine
end
theorem Mine.rs_Y9 : True := by (w_top off; k_with_none; trivial)

section
open PySem PySem.W PyProof.Rows
set_option Elab.async false
set_option maxRecDepth 100000
set_option linter.unusedVariables false
namespace Mine
theorem kwY10_1 : True := by
  k_with_none
  (k_with "storeName" => (k_here; (try dsimp only); k_dflt (refine' storeX_P ?F ?N ?_ ?a ?b; (case F => k_asm); (case N => k_asm); (case a => rfl); (case b => rfl); k_whole); intro m' h' tk' F' N'; (try k_sweep)))
  (k_with "storeName" => (k_here; (try dsimp only); (with_reducible show wpAny _ _ (storeName _ _ (Value.int _ (HAdd.hAdd _ _))) _ _ _); k_dflt (refine' storeX_I ?F ?N ?_ ?a ?b; (case F => k_asm); (case N => k_asm); (case a => rfl); (case b => rfl); k_whole); intro t' m' h' tk' F' N'; (try k_sweep)))
  (k_with "storeName" => (k_here; (try dsimp only); (with_reducible show wpAny _ _ (storeName _ _ (Value.str _ (HAdd.hAdd _ _))) _ _ _); k_dflt (refine' storeX_S ?F ?N ?_ ?a ?b; (case F => k_asm); (case N => k_asm); (case a => rfl); (case b => rfl); k_whole); intro t' m' h' tk' F' N'; (try k_sweep)))
  (k_with "call ref" => (k_here; (with_reducible show wpAny _ _ (call (Value.ref 138) _ _) _ _ _); (show wpAny _ _ (call (Value.ref 138) _ [(PySem.Str.ofString "strict_mode", Value.bool false)]) _ _ _); (refine' a2b64_spec _ _ _ _ _ _ _ _ _ _ _ _ _ _ _ _ _ _ _ _ _ _ _ _ _ _ _ _ _ _ _ _ _ _ _ ?q0 ?q1 ?q2 ?q3 ?q4 ?q5 ?q6 ?q7 ?q8 ?q9 ?q10 ?q11 ?q12 ?q13 ?q14 ?q15 ?q16 ?q17 ?q18 ?q19 ?q20 ?q21 ?q22 ?q23 ?q24 ?q25 ?q26 ?q27 ?q28 ?q29 ?q30 ?q31 ?q32 ?q33 ?q34 ?q35 ?q36 ?q37 ?q38 ?q39 _ _ _ _ _ _ _ _ _ _ _ _ _ _ _ _ _ ?k1 ?k2 ?k3 ?k4 ?k5 ?kK ?kz ?kd ?ku ?_; (case q0 => assumption); (case q1 => assumption); (case q2 => assumption); (case q3 => assumption); (case q4 => assumption); (case q5 => assumption); (case q6 => assumption); (case q7 => assumption); (case q8 => assumption); (case q9 => assumption); (case q10 => assumption); (case q11 => assumption); (case q12 => assumption); (case q13 => assumption); (case q14 => assumption); (case q15 => assumption); (case q16 => assumption); (case q17 => assumption); (case q18 => assumption); (case q19 => assumption); (case q20 => assumption); (case q21 => assumption); (case q22 => assumption); (case q23 => assumption); (case q24 => assumption); (case q25 => assumption); (case q26 => assumption); (case q27 => assumption); (case q28 => assumption); (case q29 => assumption); (case q30 => assumption); (case q31 => assumption); (case q32 => assumption); (case q33 => assumption); (case q34 => assumption); (case q35 => assumption); (case q36 => assumption); (case q37 => assumption); (case q38 => assumption); (case q39 => assumption); (case k1 => k_asm); (case k2 => k_asm); (case k3 => k_asm); (case k4 => k_asm); (case k5 => k_asm); (case kK => first | exact rfl | assumption); (case kz => assumption); (case kd => first | omega | ktr_room); (case ku => first | omega | ktr_units); intro t9 h9 tk9 F9 N9; (try dsimp only); (try k_fold))))
  (k_with "call ref" => (k_here; (with_reducible show wpAny _ _ (call (Value.ref 89) _) _ _ _); (refine' bfd8 _ _ _ _ _ _ _ _ _ _ _ _ _ _ _ _ ?q0 _ _ _ _ _ _ _ _ _ _ _ _ _ _ _ _ _ ?k1 ?k2 ?k3 ?k4 ?k5 ?kK ?kz ?kd ?ku ?_; (case q0 => assumption); (case k1 => k_asm); (case k2 => k_asm); (case k3 => k_asm); (case k4 => k_asm); (case k5 => k_asm); (case kK => first | exact rfl | assumption); (case kz => assumption); (case kd => first | omega | ktr_room); (case ku => first | omega | ktr_units); intro t9 h9 tk9 F9 N9; (try dsimp only); (try k_fold))))
  trivial
set_option maxHeartbeats 4000000 in
theorem b64dec_spec (w : World) (p : Program) (loose : List PySem.Str) (mean : ExcName → Option Value) (mg mb : PySem.Str → Option Value) (news : List (Addr × Obj)) (g0 g1 g2 g3 g4 g5 : Nat) (k0 k1 k2 k3 k4 k5 d0 d1 d2 d3 d4 d5 w1 w2 w5 r0 r1 r2 r3 : Int) (t : Tok) (hx : ∀ y ∈ [g0, g1, g2, g3, g4, g5, 61, 61], y < 128) (e0 : ((g0.toUInt8).toNat : Int) = k0) (e1 : ((g1.toUInt8).toNat : Int) = k1) (e2 : ((g2.toUInt8).toNat : Int) = k2) (e3 : ((g3.toUInt8).toNat : Int) = k3) (e4 : ((g4.toUInt8).toNat : Int) = k4) (e5 : ((g5.toUInt8).toNat : Int) = k5) (e6 : (((61 : Nat).toUInt8).toNat : Int) = 61) (e7 : (((61 : Nat).toUInt8).toNat : Int) = 61) (n0 : k0 ≠ 61) (f0 : b64Value k0 = d0) (gg0 : 0 ≤ d0 ∧ d0 < 64) (n1 : k1 ≠ 61) (f1 : b64Value k1 = d1) (gg1 : 0 ≤ d1 ∧ d1 < 64) (n2 : k2 ≠ 61) (f2 : b64Value k2 = d2) (gg2 : 0 ≤ d2 ∧ d2 < 64) (n3 : k3 ≠ 61) (f3 : b64Value k3 = d3) (gg3 : 0 ≤ d3 ∧ d3 < 64) (n4 : k4 ≠ 61) (f4 : b64Value k4 = d4) (gg4 : 0 ≤ d4 ∧ d4 < 64) (n5 : k5 ≠ 61) (f5 : b64Value k5 = d5) (gg5 : 0 ≤ d5 ∧ d5 < 64) (a0 : Builtin.bitOr (d0 * 2 ^ Int.toNat 2) (Int.fdiv d1 (2 ^ (4 : Int).toNat)) = r0) (m1 : Builtin.bitAnd d1 15 = w1) (a1 : Builtin.bitOr (w1 * 2 ^ Int.toNat 4) (Int.fdiv d2 (2 ^ (2 : Int).toNat)) = r1) (m2 : Builtin.bitAnd d2 3 = w2) (a2 : Builtin.bitOr (w2 * 2 ^ Int.toNat 6) d3 = r2) (a3 : Builtin.bitOr (d4 * 2 ^ Int.toNat 2) (Int.fdiv d5 (2 ^ (4 : Int).toNat)) = r3) (m5 : Builtin.bitAnd d5 15 = w5) (b1 : 0 ≤ w1 ∧ w1 < 16) (b2 : 0 ≤ w2 ∧ w2 < 4) (b5 : 0 ≤ w5 ∧ w5 < 16) (s0 : 0 ≤ r0 ∧ r0 < 256) (s1 : 0 ≤ r1 ∧ r1 < 256) (s2 : 0 ≤ r2 ∧ r2 < 256) (s3 : 0 ≤ r3 ∧ r3 < 256):
    Clm w p loose mean mg mb news 185 6 [.str ⟨[g0, g1, g2, g3, g4, g5, 61, 61].toArray⟩ t]  (fun t => .bytes (byteArr [r0, r1, r2, r3]) t) := by
  dsimp only [Clm]
  k_fill
  intros
  rename_i hret
  refine wpAny_call ?_
  k_dflt (refine' code_def ?k1 ?k2 ?k3 ?k4 ?k5 ?kA ?kF ?kK ?k6 ?k7 ?k8 ?k9 ?kB ?_ ?c2 ?c3 ?c4 ?c5; (case kA => exact rfl); (case kF => exact rfl); (case kK => first | exact rfl | assumption); (case k1 => k_asm); (case k2 => k_asm); (case k3 => k_asm); (case k4 => k_asm); (case k5 => k_asm); (case k6 => k_is); (case k7 => k_is); (case k8 => ktr_room); (case k9 => first | exact BindsTo.of_eq rfl | exact binds_K (by k_in) rfl (by k_is) rfl rfl rfl | fail "no rule for these arguments"); (case c5 => decide); (case kB => exact locs rfl); (case c2 => exact rfl); (case c3 => exact rfl); (case c4 => exact rfl); k_whole; intro g' L' h' FG' F' N' B' X' T'; (try dsimp only); (try k_lift B'); (try k_fold))
  k_steps
  all_goals (first | (refine hret _ _ _ ?e2 ?e3; (case e2 => k_asm); (case e3 => first | k_asm | (refine' cb_drop ?cbN ?cbS; (case cbN => assumption); (case cbS => k_sub)))) | cb_end hret | w_report)

end Mine
end
theorem Mine.rs_Y10 : True := by (w_top off; k_with_none; trivial)

section
open PySem PySem.W PyProof.Rows PySem.Calls PySem.Spec
set_option Elab.async false
set_option maxRecDepth 100000
set_option linter.unusedVariables false
namespace Mine
noncomputable def lawRec : Option DefRec := (defOf hd.view_39 PySem.Challenge.rw_qh0008_01.row.name).map (·.1)
noncomputable def lawScope : Scope := match lawRec with | some d => d.scope | none => default
noncomputable def lawLoop : List Stmt := match lawRec with | some d => (match d.body with | .For _ _ b _ _ :: _ => b | _ => []) | none => []
noncomputable def lawSt (k : Nat) : Stmt := match lawLoop.drop k with | s :: _ => s | _ => default
/-- two entries of a ledger, one behind the other, and the rest -/
inductive Pull (x y : Addr × Obj) : List (Addr × Obj) → List (Addr × Obj) → Prop
  | here (r : List (Addr × Obj)) : Pull x y (x :: y :: r) r
  | skip (a : Addr × Obj) {l r : List (Addr × Obj)} (h : Pull x y l r) : Pull x y (a :: l) (a :: r)
theorem Pull.sub {x y : Addr × Obj} {l r : List (Addr × Obj)} (P : Pull x y l r) : ∀ p ∈ x :: y :: r, p ∈ l := by
  induction P with
  | here r => exact fun _ h => h
  | skip a _ ih =>
    intro p hp
    rcases List.mem_cons.mp hp with rfl | hp
    · exact .tail _ (ih _ (.head _))
    · rcases List.mem_cons.mp hp with rfl | hp
      · exact .tail _ (ih _ (.tail _ (.head _)))
      · rcases List.mem_cons.mp hp with rfl | hp
        · exact .head _
        · exact .tail _ (ih _ (.tail _ (.tail _ hp)))
theorem Pull.news {h₀ h : Heap} {L : Addr} {x y : Addr × Obj} {l r : List (Addr × Obj)} (P : Pull x y l r) (N : News h₀ L h l) : News h₀ L h (x :: y :: r) := fun p hp => N p (P.sub p hp)
section
variable {w : World} {p : Program} {loose : List PySem.Str} {mean : ExcName → Option Value} {mg mb : PySem.Str → Option Value} {src msg : PySem.Str} {q n e : Int} {y : Nat} {t1 t2 t3 : Tok}
  {dp un : Nat} {gd : Option (List Code)} {cn : PySem.Str} {cs : Scope} {a : Addr} {ccd : Value} {cl : List (PySem.Str × Addr)} {A₀ : Around} {h₀ : Heap} {L : Addr} {m : PySem.Str → Option Value} {s : Shared} {Q E : Value → Shared → Prop} {news others : List (Addr × Obj)} {ps : Array Value} {c : Addr} {oc : Obj}
/-- _law_told at a place where the sign is told -/
theorem told_yes (hS : ∀ news t1 t2 t3, ClmTQ w p loose mean mg mb news 217 12 [.str src t1, .int q t2, .int n t3] e y)
    (B : Below A₀ h₀ [] h₀) (F : Fr h₀ L s.heap m) (X : (hd.heap_39 w.params).In h₀) (N : News h₀ L s.heap news) (T : Top p loose mean mg mb h₀) (hk : cs.kind = .function) (Z : FzAt w h₀) (hd' : dp + 12 < recursionLimit) (hu : un + 8 * 12 < cLine)
    (h : ∀ (D : Addr) (t u : Tok) (h' : Heap) (tk' : Nat), Fr h₀ L h' m → News h₀ L h' ((D, tupO [.int e t, .str ⟨[y].toArray⟩ u]) :: news) → (∀ q ∈ news, q.1 < D) → Q (.ref D) { s with heap := h', toks := tk' }) :
    wpAny (model PySem.Challenge.rw_qh0008_01.row.prog w) (ktrTop dp un gd cn cs L a ccd cl []) (call (.ref 217) [.str src t1, .int q t2, .int n t3]) Q E s :=
  hS _ _ _ _ _ _ _ _ _ _ _ _ _ _ _ _ _ _ _ B F X N T hk Z hd' hu h
/-- _law_told at a place where the sign is refused -/
theorem told_not (hS : ∀ others t1 t2 t3, ClmTE w p loose mean mg mb others 217 12 [.str src t1, .int q t2, .int n t3] msg) (P : Pull (64, tabObj ps) (c, oc) news others)
    (B : Below A₀ h₀ [] h₀) (F : Fr h₀ L s.heap m) (X : (hd.heap_39 w.params).In h₀) (N : News h₀ L s.heap news) (T : Top p loose mean mg mb h₀) (hk : cs.kind = .function) (Z : FzAt w h₀) (hd' : dp + 12 < recursionLimit) (hu : un + 8 * 12 < cLine) (W : Wrm ps c oc) (O : Off c others)
    (h : ∀ (u : Tok) (h' : Heap) (tk' : Nat) (ps' : Array Value) (c' : Addr) (oc' : Obj), Fr h₀ L h' m → News h₀ L h' ((64, tabObj ps') :: (c', oc') :: others) → Wrm ps' c' oc' → Off c' others → Q (.str msg u) { s with heap := h', toks := tk' }) :
    wpAny (model PySem.Challenge.rw_qh0008_01.row.prog w) (ktrTop dp un gd cn cs L a ccd cl []) (call (.ref 217) [.str src t1, .int q t2, .int n t3]) Q E s :=
  hS _ _ _ _ _ _ _ _ _ _ _ _ _ _ _ _ _ _ _ _ _ _ B F X (P.news N) T hk Z hd' hu W O h
end
section
variable {h₀ h' : Heap} {L I C D : Addr} {m : PySem.Str → Option Value} {s₁ : Shared} {oI oC oD : Obj} {S : List (Addr × Obj) → Prop} {rest : Value → List (Addr × Obj) → Prop} {y : Value} {tk : Nat} {x : Addr × Obj} {news : List (Addr × Obj)}
theorem compEnd1 (F : Fr h₀ L h' m) (N : News h₀ L h' (x :: (I, oI) :: (C, oC) :: (D, oD) :: news)) (l : ∀ q ∈ (I, oI) :: (C, oC) :: (D, oD) :: news, q.1 < x.1) (off : LCg.Off3 I C D news) (hS : S (x :: news)) (r : rest y (x :: news)) :
    LCg.CompEnd h₀ L m s₁ I oI C oC D oD S rest y { s₁ with heap := h', toks := tk } := by
  refine LCg.CompEnd.intro F N (x :: news) (fun p hp => ?_) ⟨⟨Nat.ne_of_gt (l _ (.head _)), Nat.ne_of_gt (l _ (.tail _ (.head _))), Nat.ne_of_gt (l _ (.tail _ (.tail _ (.head _))))⟩, off⟩ hS r
  simp only [List.mem_cons] at hp ⊢
  rcases hp with hp | hp | hp | hp | hp
  · exact .inr (.inl hp)
  · exact .inr (.inr (.inl hp))
  · exact .inr (.inr (.inr (.inl hp)))
  · exact .inl hp
  · exact .inr (.inr (.inr (.inr hp)))
theorem compEnd2 {x : Addr × Obj} {c : Addr} {oc : Obj} {t : Obj} (F : Fr h₀ L h' m) (N : News h₀ L h' ((64, t) :: (c, oc) :: (I, oI) :: (C, oC) :: (D, oD) :: news)) (O : Off c ((I, oI) :: (C, oC) :: (D, oD) :: news)) (off : ∀ p ∈ news, p.1 ≠ I ∧ p.1 ≠ C ∧ p.1 ≠ D) (hS : S ((64, t) :: (c, oc) :: news)) (r : rest y ((64, t) :: (c, oc) :: news)) :
    LCg.CompEnd h₀ L m s₁ I oI C oC D oD S rest y { s₁ with heap := h', toks := tk } := by
  have h1 := O (I, oI) (.head _)
  have h2 := O (C, oC) (.tail _ (.head _))
  have h3 := O (D, oD) (.tail _ (.tail _ (.head _)))
  refine LCg.CompEnd.intro F N ((64, t) :: (c, oc) :: news) (fun p hp => ?_) ⟨⟨Ne.symm h1.1, Ne.symm h2.1, Ne.symm h3.1⟩, ⟨Ne.symm h1.2, Ne.symm h2.2, Ne.symm h3.2⟩, LCg.Off3.of off⟩ hS r
  simp only [List.mem_cons] at hp ⊢
  rcases hp with hp | hp | hp | hp | hp | hp
  · exact .inr (.inr (.inl hp))
  · exact .inr (.inr (.inr (.inl hp)))
  · exact .inr (.inr (.inr (.inr (.inl hp))))
  · exact .inl hp
  · exact .inr (.inl hp)
  · exact .inr (.inr (.inr (.inr (.inr hp))))
end
section
variable {prog : Program} {w : World} {A : Around} {E : Value → Shared → Prop} {s : Shared} {Q : Value → Shared → Prop} {a b : Value} {da db : PyData} {as bs : List Addr}
theorem ne_like (ra : Reads s.heap a da as) (rb : Reads s.heap b db bs) (ha : PySem.SeqAt.shaped da = true) (hb : PySem.SeqAt.shaped db = true) (hu : A.units + 64 < cLine) (he : PyData.eqv da db = true) (h : Q (.bool false) s) :
    wpAny (model prog w) A (compareOp .NotEq a b) Q E s := ne_dataH ra rb ha hb hu (by rw [he]; exact h)
end
theorem strOkOne {y : Nat} : PyData.strOk ⟨[y].toArray⟩ = decide (y < 1114112) := by simp [PyData.strOk]
theorem u8ok (o : UInt8) : (o.toNat < 1114112) = True := eq_true (Nat.lt_trans o.toNat_lt (by decide))
theorem shaped_of {d : PyData} (h : d.canLay0 = true) (hd : d.depth ≤ 64) : PySem.SeqAt.shaped d = true := by
  unfold PySem.SeqAt.shaped
  rw [h, decide_eq_true hd]
  rfl
end Mine
end
theorem Mine.rs_Z1 : True := by (w_top off; k_with_none; trivial)

section
open PySem PySem.W PyProof.Rows
set_option Elab.async false
set_option maxRecDepth 100000
set_option linter.unusedVariables false
namespace Mine
def LawAt (c L Dl I : Addr) : Prop := @LT.lt Nat _ 64 L ∧ @LT.lt Nat _ (L + 1 + 1 + 1 + 1) Dl ∧ @LT.lt Nat _ Dl I ∧ @Ne Nat c (L + 1) ∧ @Ne Nat c (L + 1 + 1) ∧ @Ne Nat c (L + 1 + 1 + 1) ∧ @Ne Nat c (L + 1 + 1 + 1 + 1) ∧ @Ne Nat c Dl ∧ @Ne Nat c I


theorem kwZA_1 : True := by
  k_with_none
  (k_with "storeName" => (k_here; (try dsimp only); k_dflt (refine' storeX_P ?F ?N ?_ ?a ?b; (case F => k_asm); (case N => k_asm); (case a => rfl); (case b => rfl); k_whole); intro m' h' tk' F' N'; (try k_sweep)))
  (k_with "storeName" => (k_here; (try dsimp only); (with_reducible show wpAny _ _ (storeName _ _ (Value.int _ (HAdd.hAdd _ _))) _ _ _); k_dflt (refine' storeX_I ?F ?N ?_ ?a ?b; (case F => k_asm); (case N => k_asm); (case a => rfl); (case b => rfl); k_whole); intro t' m' h' tk' F' N'; (try k_sweep)))
  (k_with "storeName" => (k_here; (try dsimp only); (with_reducible show wpAny _ _ (storeName _ _ (Value.str _ (HAdd.hAdd _ _))) _ _ _); k_dflt (refine' storeX_S ?F ?N ?_ ?a ?b; (case F => k_asm); (case N => k_asm); (case a => rfl); (case b => rfl); k_whole); intro t' m' h' tk' F' N'; (try k_sweep)))
  (k_with "eval ListComp" => (k_here; k_dflt (refine ListComp_X (by k_asm) (by with_unfolding_all rfl) (by decide) (by rfl) (by decide) (by rfl) ?_ (by intro _; rfl))))
  (k_with "SrcX" => (k_here; k_dflt (first
  | (refine SrcX.bytes4 (by rfl) (by k_asm) (by k_asm) ?_; intro g')
  | (refine SrcX.range (by rfl) (by k_asm) (by k_asm) (by assumption) (by first | decide | rfl) (by first | rfl | decide) (by first | size_fits | exact Nat.le_of_ble_eq_true rfl) ?_; intro g'; lcg_lit))))
  (k_with "CompRest" => (with_unfolding_all (refine LCg.CompRest.succ ?_; intro v' I' oI' C' oC' D' m' h' tk' E' hv' hC' hx' F' N' off' ne'; obtain ⟨t9', hv9'⟩ := hv'; (first | simp only [List.getD_cons_succ, List.getD_cons_zero] at hv9' | simp at hv9' | skip); subst hv9'; have off8 := off'; (try simp only [LCg.Off3, and_true] at off8))))
  (k_with "CompEnd" => ((with_reducible rename LCg.Off3 _ _ _ _ => off9); (with_reducible rename News _ _ _ _ => N9); (with_reducible refine LCg.CompEnd.intro (by assumption) N9 _ (fun p hp => hp) off9 trivial ?_)))
  trivial
set_option maxHeartbeats 4000000 in
theorem S1 (w : World) (p : Program) (loose : List PySem.Str) (mean : ExcName → Option Value) (mg mb : PySem.Str → Option Value) (cs : Scope) (hcs : cs = lawScope) (x : Int) (tx : Tok) (wN : Option Value) :
    ∀ (dp un : Nat) (gd : Option (List Code)) (fa : Addr) (cd : Value) (A₀ : Around) (h₀ : Heap) (L : Addr) (m₁ : PySem.Str → Option Value) (s : Shared) (Q : Flow → Shared → Prop) (E : Value → Shared → Prop) (ps : Array Value) (c : Addr) (oc oN oO oS oH : Obj) (Dl : Addr) (oD : Obj) (I : Addr) (oI : Obj), Below A₀ h₀ [] h₀ → (hd.heap_39 w.params).In h₀ → Top p loose mean mg mb h₀ → FzAt w h₀ → dp + 20 < recursionLimit → un + 160 < cLine → Wrm ps c oc → LawAt c L Dl I → Fr h₀ L s.heap (fun y => if y = PySem.Str.ofString "x" then some (.int x tx) else m₁ y) → News h₀ L s.heap [(64, tabObj ps), (c, oc), (L + 1, oN), (L + 1 + 1, oO), (L + 1 + 1 + 1, oS), (L + 1 + 1 + 1 + 1, oH), (Dl, oD), (I, oI)] → oN.data = .cell wN →
    (∀ h' tk' oN' tN, Fr h₀ L h' (fun y => if y = PySem.Str.ofString "x" then some (.int x tx) else m₁ y) → News h₀ L h' [(64, tabObj ps), (c, oc), (L + 1, oN'), (L + 1 + 1, oO), (L + 1 + 1 + 1, oS), (L + 1 + 1 + 1 + 1, oH), (Dl, oD), (I, oI)] → oN'.data = .cell (some (.int (x.fmod (2 ^ Int.toNat 32)) tN)) → Q .next { s with heap := h', toks := tk' }) →
    wpAny (model PySem.Challenge.rw_qh0008_01.row.prog w) (ktrTop dp un gd (PySem.Str.ofString "law") cs L fa cd (cellsFrom (L + 1) cs.names []) []) (exec (lawSt 0) (envX (PySem.Str.ofString "law") cs L fa cd (cellsFrom (L + 1) cs.names []))) Q E s := by
  conv at hcs => rhs; whnf
  subst hcs
  k_fill
  intro dp un gd fa cd A₀ h₀ L m₁ s Q E ps c oc oN oO oS oH Dl oD I oI B X T Z hd9 hu9 W lw F N dN ret
  obtain ⟨l0, l1, l2, l3, l4, l5, l6, l7, l8⟩ := lw
  conv => enter [3, 1]; whnf
  k_steps
  all_goals (refine' ret _ _ ?a1 ?a2 ?e1 ?e2 ?e3; (case e3 => assumption); (case e1 => k_asm); (case e2 => first | k_asm | ((with_reducible rename News _ _ _ _ => N9); exact (fun p hp => N9 p (by simp only [List.mem_cons, List.not_mem_nil, or_false] at hp ⊢; rcases hp with hp | hp | hp | hp | hp | hp | hp | hp <;> simp only [hp, true_or, or_true])))))

set_option maxHeartbeats 4000000 in
theorem S2 (w : World) (p : Program) (loose : List PySem.Str) (mean : ExcName → Option Value) (mg mb : PySem.Str → Option Value) (cs : Scope) (hcs : cs = lawScope) (v : Int) (tN : Tok) (wO : Option Value) (o0 o1 o2 o3 : UInt8) (b0 : ((v.fdiv (256 ^ Int.toNat 3)).fmod 256).toNat.toUInt8 = o0) (b1 : ((v.fdiv (256 ^ Int.toNat 2)).fmod 256).toNat.toUInt8 = o1) (b2 : ((v.fdiv (256 ^ Int.toNat 1)).fmod 256).toNat.toUInt8 = o2) (b3 : ((v.fdiv (256 ^ Int.toNat 0)).fmod 256).toNat.toUInt8 = o3) :
    ∀ (dp un : Nat) (gd : Option (List Code)) (fa : Addr) (cd : Value) (A₀ : Around) (h₀ : Heap) (L : Addr) (m₁ : PySem.Str → Option Value) (s : Shared) (Q : Flow → Shared → Prop) (E : Value → Shared → Prop) (ps : Array Value) (c : Addr) (oc oN oO oS oH : Obj) (Dl : Addr) (oD : Obj) (I : Addr) (oI : Obj), Below A₀ h₀ [] h₀ → (hd.heap_39 w.params).In h₀ → Top p loose mean mg mb h₀ → FzAt w h₀ → dp + 20 < recursionLimit → un + 160 < cLine → Wrm ps c oc → LawAt c L Dl I → Fr h₀ L s.heap m₁ → News h₀ L s.heap [(64, tabObj ps), (c, oc), (L + 1, oN), (L + 1 + 1, oO), (L + 1 + 1 + 1, oS), (L + 1 + 1 + 1 + 1, oH), (Dl, oD), (I, oI)] → oN.data = .cell (some (.int v tN)) → oO.data = .cell wO →
    (∀ h' tk' oO' tO, Fr h₀ L h' m₁ → News h₀ L h' [(64, tabObj ps), (c, oc), (L + 1, oN), (L + 1 + 1, oO'), (L + 1 + 1 + 1, oS), (L + 1 + 1 + 1 + 1, oH), (Dl, oD), (I, oI)] → oO'.data = .cell (some (.bytes [o0, o1, o2, o3].toArray tO)) → Q .next { s with heap := h', toks := tk' }) →
    wpAny (model PySem.Challenge.rw_qh0008_01.row.prog w) (ktrTop dp un gd (PySem.Str.ofString "law") cs L fa cd (cellsFrom (L + 1) cs.names []) []) (exec (lawSt 1) (envX (PySem.Str.ofString "law") cs L fa cd (cellsFrom (L + 1) cs.names []))) Q E s := by
  subst b0 b1 b2 b3
  conv at hcs => rhs; whnf
  subst hcs
  k_fill
  intro dp un gd fa cd A₀ h₀ L m₁ s Q E ps c oc oN oO oS oH Dl oD I oI B X T Z hd9 hu9 W lw F N dN dO ret
  obtain ⟨l0, l1, l2, l3, l4, l5, l6, l7, l8⟩ := lw
  conv => enter [3, 1]; whnf
  k_steps
  all_goals (refine' ret _ _ ?a1 ?a2 ?e1 ?e2 ?e3; (case e3 => assumption); (case e1 => k_asm); (case e2 => first | k_asm | ((with_reducible rename News _ _ _ _ => N9); exact (fun p hp => N9 p (by simp only [List.mem_cons, List.not_mem_nil, or_false] at hp ⊢; rcases hp with hp | hp | hp | hp | hp | hp | hp | hp <;> simp only [hp, true_or, or_true])))))

end Mine
end
theorem Mine.rs_ZA : True := by (w_top off; k_with_none; trivial)

section
open PySem PySem.W PyProof.Rows
set_option Elab.async false
set_option maxRecDepth 100000
set_option linter.unusedVariables false
namespace Mine

section
variable {w : World} {p : Program} {loose : List PySem.Str} {mean : ExcName → Option Value} {mg mb : PySem.Str → Option Value} {news : List (Addr × Obj)} {b : Array UInt8} {x y : PySem.Str} {t t2 : Tok} {R : Tok → Value} {lv : Nat} {f : Addr} {z : Bool}
theorem use_b (f : Addr) (lv : Nat) (h : ∀ news t, Clm w p loose mean mg mb news f lv [.bytes b t] R) : Clm w p loose mean mg mb news f lv [.bytes b t] R := h _ _
theorem use_s (f : Addr) (lv : Nat) (h : ∀ news t, Clm w p loose mean mg mb news f lv [.str x t] R) : Clm w p loose mean mg mb news f lv [.str x t] R := h _ _
theorem use_sz (f : Addr) (lv : Nat) (h : ∀ news t, Clm w p loose mean mg mb news f lv [.str x t, .bool z] R) : Clm w p loose mean mg mb news f lv [.str x t, .bool z] R := h _ _
theorem use_bs (f : Addr) (lv : Nat) (h : ∀ news t t2, Clm w p loose mean mg mb news f lv [.bytes b t, .str y t2] R) : Clm w p loose mean mg mb news f lv [.bytes b t, .str y t2] R := h _ _ _
end
theorem kwZB_1 : True := by
  k_with_none
  (k_with "storeName" => (k_here; (try dsimp only); k_dflt (refine' storeX_P ?F ?N ?_ ?a ?b; (case F => k_asm); (case N => k_asm); (case a => rfl); (case b => rfl); k_whole); intro m' h' tk' F' N'; (try k_sweep)))
  (k_with "storeName" => (k_here; (try dsimp only); (with_reducible show wpAny _ _ (storeName _ _ (Value.int _ (HAdd.hAdd _ _))) _ _ _); k_dflt (refine' storeX_I ?F ?N ?_ ?a ?b; (case F => k_asm); (case N => k_asm); (case a => rfl); (case b => rfl); k_whole); intro t' m' h' tk' F' N'; (try k_sweep)))
  (k_with "storeName" => (k_here; (try dsimp only); (with_reducible show wpAny _ _ (storeName _ _ (Value.str _ (HAdd.hAdd _ _))) _ _ _); k_dflt (refine' storeX_S ?F ?N ?_ ?a ?b; (case F => k_asm); (case N => k_asm); (case a => rfl); (case b => rfl); k_whole); intro t' m' h' tk' F' N'; (try k_sweep)))
  (k_with "call ref" => (k_here; (with_reducible show wpAny _ _ (call (Value.ref 210) _) _ _ _); k_dflt (refine' use_b 210 2 ?hS _ _ _ _ _ _ _ _ _ _ _ _ _ _ _ _ _ ?k1 ?k2 ?k3 ?k4 ?k5 ?kK ?kz ?kd ?ku ?_; (case hS => assumption); (case k1 => k_asm); (case k2 => k_asm); (case k3 => k_asm); (case k4 => k_asm); (case k5 => k_asm); (case kK => first | exact rfl | assumption); (case kz => assumption); (case kd => first | omega | ktr_room); (case ku => first | omega | ktr_units); k_whole); intro t9 h9 tk9 F9 N9; (try dsimp only); (try k_fold)))
  trivial
theorem lower8 {g0 g1 g2 g3 g4 g5 g6 g7 : Nat} {prog : Program} {w : World} {A : Around} {E : Value → Shared → Prop} {s : Shared} {Q : Value → Shared → Prop} {t : Tok} (hx : ∀ y ∈ [g0, g1, g2, g3, g4, g5, g6, g7], y < 128) (h : ∀ t' k, Q (.str ⟨[lo1 g0, lo1 g1, lo1 g2, lo1 g3, lo1 g4, lo1 g5, lo1 g6, lo1 g7].toArray⟩ t') { s with toks := k }) :
    wpAny (model prog w) A (call (.builtin "str.lower") [.str ⟨[g0, g1, g2, g3, g4, g5, g6, g7].toArray⟩ t]) Q E s := by
  have e : Txt.lower ⟨[g0, g1, g2, g3, g4, g5, g6, g7].toArray⟩ = ⟨[lo1 g0, lo1 g1, lo1 g2, lo1 g3, lo1 g4, lo1 g5, lo1 g6, lo1 g7].toArray⟩ := (lower_ascii (x := ⟨[g0, g1, g2, g3, g4, g5, g6, g7].toArray⟩) (by simpa using hx)).trans (by simp)
  refine SC.lower ?_ ?_
  · rw [e]; exact (by decide : Builtin.Str.tooLong 8 = false)
  · rw [e]; exact h _ _
theorem r_eqYes {a b : Int} {t u : Tok} {prog : Program} {w : World} {A : Around} {E : Value → Shared → Prop} {s : Shared} {Q : Value → Shared → Prop} (e : a = b) (h : Q (.bool true) s) : wpAny (model prog w) A (compareOp .Eq (.int a t) (.int b u)) Q E s := by
  refine PyProof.Rows.eq_int ?_
  have e2 : (a == b) = true := by simpa using e
  rw [e2]
  exact h
theorem kwZB_2 : True := by
  (k_with "compareOp Eq int int" => (k_here; (first | (with_reducible refine' r_eqYes ?q1 ?_; (case q1 => with_reducible assumption)) | (with_reducible refine' r_eqNo ?q1 ?_; (case q1 => with_reducible assumption)))))
  (k_with "call builtin:str.lower" => (k_here; k_dflt (refine' lower8 ?q1 ?_; (case q1 => assumption); k_whole); intro _ _))
  trivial
set_option maxHeartbeats 4000000 in
theorem S3 (w : World) (p : Program) (loose : List PySem.Str) (mean : ExcName → Option Value) (mg mb : PySem.Str → Option Value) (cs : Scope) (hcs : cs = lawScope) (o0 o1 o2 o3 : UInt8) (g0 g1 g2 g3 g4 g5 g6 g7 : Nat) (tO : Tok) :
    ∀ (dp un : Nat) (gd : Option (List Code)) (fa : Addr) (cd : Value) (A₀ : Around) (h₀ : Heap) (L : Addr) (m₁ : PySem.Str → Option Value) (s : Shared) (Q : Flow → Shared → Prop) (E : Value → Shared → Prop) (ps : Array Value) (c : Addr) (oc oN oO oS oH : Obj) (Dl : Addr) (oD : Obj) (I : Addr) (oI : Obj), Below A₀ h₀ [] h₀ → (hd.heap_39 w.params).In h₀ → Top p loose mean mg mb h₀ → FzAt w h₀ → dp + 20 < recursionLimit → un + 160 < cLine → Wrm ps c oc → LawAt c L Dl I → Fr h₀ L s.heap m₁ → News h₀ L s.heap [(64, tabObj ps), (c, oc), (L + 1, oN), (L + 1 + 1, oO), (L + 1 + 1 + 1, oS), (L + 1 + 1 + 1 + 1, oH), (Dl, oD), (I, oI)] → oO.data = .cell (some (.bytes [o0, o1, o2, o3].toArray tO)) → (∀ news t, Clm w p loose mean mg mb news 210 2 [.bytes [o0, o1, o2, o3].toArray t] (fun t => .str ⟨[g0, g1, g2, g3, g4, g5, g6, g7].toArray⟩ t)) →
    (∀ h' tk' tg, Fr h₀ L h' (fun y => if y = PySem.Str.ofString "great" then some (.str ⟨[g0, g1, g2, g3, g4, g5, g6, g7].toArray⟩ tg) else m₁ y) → News h₀ L h' [(64, tabObj ps), (c, oc), (L + 1, oN), (L + 1 + 1, oO), (L + 1 + 1 + 1, oS), (L + 1 + 1 + 1 + 1, oH), (Dl, oD), (I, oI)] → Q .next { s with heap := h', toks := tk' }) →
    wpAny (model PySem.Challenge.rw_qh0008_01.row.prog w) (ktrTop dp un gd (PySem.Str.ofString "law") cs L fa cd (cellsFrom (L + 1) cs.names []) []) (exec (lawSt 2) (envX (PySem.Str.ofString "law") cs L fa cd (cellsFrom (L + 1) cs.names []))) Q E s := by
  conv at hcs => rhs; whnf
  subst hcs
  k_fill
  intro dp un gd fa cd A₀ h₀ L m₁ s Q E ps c oc oN oO oS oH Dl oD I oI B X T Z hd9 hu9 W lw F N dO hG ret
  obtain ⟨l0, l1, l2, l3, l4, l5, l6, l7, l8⟩ := lw
  conv => enter [3, 1]; whnf
  k_steps
  all_goals (refine' ret _ _ ?a1 ?e1 ?e2; (case e1 => k_asm); (case e2 => first | k_asm | ((with_reducible rename News _ _ _ _ => N9); exact (fun p hp => N9 p (by simp only [List.mem_cons, List.not_mem_nil, or_false] at hp ⊢; rcases hp with hp | hp | hp | hp | hp | hp | hp | hp <;> simp only [hp, true_or, or_true])))))

set_option maxHeartbeats 4000000 in
theorem S4a (w : World) (p : Program) (loose : List PySem.Str) (mean : ExcName → Option Value) (mg mb : PySem.Str → Option Value) (cs : Scope) (hcs : cs = lawScope) (g0 g1 g2 g3 g4 g5 g6 g7 : Nat) (x : Int) (tg tx : Tok) (wS : Option Value) :
    ∀ (dp un : Nat) (gd : Option (List Code)) (fa : Addr) (cd : Value) (A₀ : Around) (h₀ : Heap) (L : Addr) (m₁ : PySem.Str → Option Value) (s : Shared) (Q : Flow → Shared → Prop) (E : Value → Shared → Prop) (ps : Array Value) (c : Addr) (oc oN oO oS oH : Obj) (Dl : Addr) (oD : Obj) (I : Addr) (oI : Obj), Below A₀ h₀ [] h₀ → (hd.heap_39 w.params).In h₀ → Top p loose mean mg mb h₀ → FzAt w h₀ → dp + 20 < recursionLimit → un + 160 < cLine → Wrm ps c oc → LawAt c L Dl I → Fr h₀ L s.heap (fun y => if y = PySem.Str.ofString "great" then some (.str ⟨[g0, g1, g2, g3, g4, g5, g6, g7].toArray⟩ tg) else if y = PySem.Str.ofString "x" then some (.int x tx) else m₁ y) → News h₀ L s.heap [(64, tabObj ps), (c, oc), (L + 1, oN), (L + 1 + 1, oO), (L + 1 + 1 + 1, oS), (L + 1 + 1 + 1 + 1, oH), (Dl, oD), (I, oI)] → oS.data = .cell wS → (∀ y ∈ [g0, g1, g2, g3, g4, g5, g6, g7], y < 128) → x.fmod 2 = 1 →
    (∀ h' tk' oS' tS, Fr h₀ L h' (fun y => if y = PySem.Str.ofString "great" then some (.str ⟨[g0, g1, g2, g3, g4, g5, g6, g7].toArray⟩ tg) else if y = PySem.Str.ofString "x" then some (.int x tx) else m₁ y) → News h₀ L h' [(64, tabObj ps), (c, oc), (L + 1, oN), (L + 1 + 1, oO), (L + 1 + 1 + 1, oS'), (L + 1 + 1 + 1 + 1, oH), (Dl, oD), (I, oI)] → oS'.data = .cell (some (.str ⟨[lo1 g0, lo1 g1, lo1 g2, lo1 g3, lo1 g4, lo1 g5, lo1 g6, lo1 g7].toArray⟩ tS)) → Q .next { s with heap := h', toks := tk' }) →
    wpAny (model PySem.Challenge.rw_qh0008_01.row.prog w) (ktrTop dp un gd (PySem.Str.ofString "law") cs L fa cd (cellsFrom (L + 1) cs.names []) []) (exec (lawSt 3) (envX (PySem.Str.ofString "law") cs L fa cd (cellsFrom (L + 1) cs.names []))) Q E s := by
  conv at hcs => rhs; whnf
  subst hcs
  k_fill
  intro dp un gd fa cd A₀ h₀ L m₁ s Q E ps c oc oN oO oS oH Dl oD I oI B X T Z hd9 hu9 W lw F N dS hx h2 ret
  obtain ⟨l0, l1, l2, l3, l4, l5, l6, l7, l8⟩ := lw
  conv => enter [3, 1]; whnf
  k_steps
  all_goals (refine' ret _ _ ?a1 ?a2 ?e1 ?e2 ?e3; (case e3 => assumption); (case e1 => k_asm); (case e2 => first | k_asm | ((with_reducible rename News _ _ _ _ => N9); exact (fun p hp => N9 p (by simp only [List.mem_cons, List.not_mem_nil, or_false] at hp ⊢; rcases hp with hp | hp | hp | hp | hp | hp | hp | hp <;> simp only [hp, true_or, or_true])))))

set_option maxHeartbeats 4000000 in
theorem S4b (w : World) (p : Program) (loose : List PySem.Str) (mean : ExcName → Option Value) (mg mb : PySem.Str → Option Value) (cs : Scope) (hcs : cs = lawScope) (g0 g1 g2 g3 g4 g5 g6 g7 : Nat) (x : Int) (tg tx : Tok) (wS : Option Value) :
    ∀ (dp un : Nat) (gd : Option (List Code)) (fa : Addr) (cd : Value) (A₀ : Around) (h₀ : Heap) (L : Addr) (m₁ : PySem.Str → Option Value) (s : Shared) (Q : Flow → Shared → Prop) (E : Value → Shared → Prop) (ps : Array Value) (c : Addr) (oc oN oO oS oH : Obj) (Dl : Addr) (oD : Obj) (I : Addr) (oI : Obj), Below A₀ h₀ [] h₀ → (hd.heap_39 w.params).In h₀ → Top p loose mean mg mb h₀ → FzAt w h₀ → dp + 20 < recursionLimit → un + 160 < cLine → Wrm ps c oc → LawAt c L Dl I → Fr h₀ L s.heap (fun y => if y = PySem.Str.ofString "great" then some (.str ⟨[g0, g1, g2, g3, g4, g5, g6, g7].toArray⟩ tg) else if y = PySem.Str.ofString "x" then some (.int x tx) else m₁ y) → News h₀ L s.heap [(64, tabObj ps), (c, oc), (L + 1, oN), (L + 1 + 1, oO), (L + 1 + 1 + 1, oS), (L + 1 + 1 + 1 + 1, oH), (Dl, oD), (I, oI)] → oS.data = .cell wS → (∀ y ∈ [g0, g1, g2, g3, g4, g5, g6, g7], y < 128) → x.fmod 2 ≠ 1 →
    (∀ h' tk' oS' tS, Fr h₀ L h' (fun y => if y = PySem.Str.ofString "great" then some (.str ⟨[g0, g1, g2, g3, g4, g5, g6, g7].toArray⟩ tg) else if y = PySem.Str.ofString "x" then some (.int x tx) else m₁ y) → News h₀ L h' [(64, tabObj ps), (c, oc), (L + 1, oN), (L + 1 + 1, oO), (L + 1 + 1 + 1, oS'), (L + 1 + 1 + 1 + 1, oH), (Dl, oD), (I, oI)] → oS'.data = .cell (some (.str ⟨[g0, g1, g2, g3, g4, g5, g6, g7].toArray⟩ tS)) → Q .next { s with heap := h', toks := tk' }) →
    wpAny (model PySem.Challenge.rw_qh0008_01.row.prog w) (ktrTop dp un gd (PySem.Str.ofString "law") cs L fa cd (cellsFrom (L + 1) cs.names []) []) (exec (lawSt 3) (envX (PySem.Str.ofString "law") cs L fa cd (cellsFrom (L + 1) cs.names []))) Q E s := by
  conv at hcs => rhs; whnf
  subst hcs
  k_fill
  intro dp un gd fa cd A₀ h₀ L m₁ s Q E ps c oc oN oO oS oH Dl oD I oI B X T Z hd9 hu9 W lw F N dS hx h2 ret
  obtain ⟨l0, l1, l2, l3, l4, l5, l6, l7, l8⟩ := lw
  conv => enter [3, 1]; whnf
  k_steps
  all_goals (refine' ret _ _ ?a1 ?a2 ?e1 ?e2 ?e3; (case e3 => assumption); (case e1 => k_asm); (case e2 => first | k_asm | ((with_reducible rename News _ _ _ _ => N9); exact (fun p hp => N9 p (by simp only [List.mem_cons, List.not_mem_nil, or_false] at hp ⊢; rcases hp with hp | hp | hp | hp | hp | hp | hp | hp <;> simp only [hp, true_or, or_true])))))

end Mine
end
theorem Mine.rs_ZB : True := by (w_top off; k_with_none; trivial)

section
open PySem PySem.W PyProof.Rows
set_option Elab.async false
set_option maxRecDepth 100000
set_option linter.unusedVariables false
namespace Mine
theorem scalar_neg (w : World) (p : Program) (loose : List PySem.Str) (mean : ExcName → Option Value) (mg mb : PySem.Str → Option Value) (news : List (Addr × Obj)) (x : Int) (t : Tok) (h : x < 0) :
    Clm w p loose mean mg mb news 76 2 [.int x t] (fun _ => .bool false) := by
  have := scalar_spec w p loose mean mg mb news x t
  rwa [show ((decide (0 ≤ x) && decide (x ≤ 55295)) || (decide (57344 ≤ x) && decide (x ≤ 1114111))) = false by simp; omega] at this

theorem kwZC_1 : True := by
  k_with_none
  (k_with "storeName" => (k_here; (try dsimp only); k_dflt (refine' storeX_P ?F ?N ?_ ?a ?b; (case F => k_asm); (case N => k_asm); (case a => rfl); (case b => rfl); k_whole); intro m' h' tk' F' N'; (try k_sweep)))
  (k_with "storeName" => (k_here; (try dsimp only); (with_reducible show wpAny _ _ (storeName _ _ (Value.int _ (HAdd.hAdd _ _))) _ _ _); k_dflt (refine' storeX_I ?F ?N ?_ ?a ?b; (case F => k_asm); (case N => k_asm); (case a => rfl); (case b => rfl); k_whole); intro t' m' h' tk' F' N'; (try k_sweep)))
  (k_with "storeName" => (k_here; (try dsimp only); (with_reducible show wpAny _ _ (storeName _ _ (Value.str _ (HAdd.hAdd _ _))) _ _ _); k_dflt (refine' storeX_S ?F ?N ?_ ?a ?b; (case F => k_asm); (case N => k_asm); (case a => rfl); (case b => rfl); k_whole); intro t' m' h' tk' F' N'; (try k_sweep)))
  (k_with "call ref" => (k_here; (with_reducible show wpAny _ _ (call (Value.ref 192) _) _ _ _); k_dflt (refine' use_b 192 6 ?hS _ _ _ _ _ _ _ _ _ _ _ _ _ _ _ _ _ ?k1 ?k2 ?k3 ?k4 ?k5 ?kK ?kz ?kd ?ku ?_; (case hS => assumption); (case k1 => k_asm); (case k2 => k_asm); (case k3 => k_asm); (case k4 => k_asm); (case k5 => k_asm); (case kK => first | exact rfl | assumption); (case kz => assumption); (case kd => first | omega | ktr_room); (case ku => first | omega | ktr_units); k_whole); intro t9 h9 tk9 F9 N9; (try dsimp only); (try k_fold)))
  (k_with "call ref" => (k_here; (with_reducible show wpAny _ _ (call (Value.ref 177) _) _ _ _); k_dflt (refine' use_b 177 6 ?hS _ _ _ _ _ _ _ _ _ _ _ _ _ _ _ _ _ ?k1 ?k2 ?k3 ?k4 ?k5 ?kK ?kz ?kd ?ku ?_; (case hS => assumption); (case k1 => k_asm); (case k2 => k_asm); (case k3 => k_asm); (case k4 => k_asm); (case k5 => k_asm); (case kK => first | exact rfl | assumption); (case kz => assumption); (case kd => first | omega | ktr_room); (case ku => first | omega | ktr_units); k_whole); intro t9 h9 tk9 F9 N9; (try dsimp only); (try k_fold)))
  (k_with "call ref" => (k_here; (with_reducible show wpAny _ _ (call (Value.ref 200) _) _ _ _); k_dflt (refine' use_sz 200 6 ?hS _ _ _ _ _ _ _ _ _ _ _ _ _ _ _ _ _ ?k1 ?k2 ?k3 ?k4 ?k5 ?kK ?kz ?kd ?ku ?_; (case hS => assumption); (case k1 => k_asm); (case k2 => k_asm); (case k3 => k_asm); (case k4 => k_asm); (case k5 => k_asm); (case kK => first | exact rfl | assumption); (case kz => assumption); (case kd => first | omega | ktr_room); (case ku => first | omega | ktr_units); k_whole); intro t9 h9 tk9 F9 N9; (try dsimp only); (try k_fold)))
  (k_with "call ref" => (k_here; (with_reducible show wpAny _ _ (call (Value.ref 205) _) _ _ _); k_dflt (refine' use_bs 205 3 ?hS _ _ _ _ _ _ _ _ _ _ _ _ _ _ _ _ _ ?k1 ?k2 ?k3 ?k4 ?k5 ?kK ?kz ?kd ?ku ?_; (case hS => assumption); (case k1 => k_asm); (case k2 => k_asm); (case k3 => k_asm); (case k4 => k_asm); (case k5 => k_asm); (case kK => first | exact rfl | assumption); (case kz => assumption); (case kd => first | omega | ktr_room); (case ku => first | omega | ktr_units); k_whole); intro t9 h9 tk9 F9 N9; (try dsimp only); (try k_fold)))
  (k_with "call ref" => (k_here; (with_reducible show wpAny _ _ (call (Value.ref 185) _) _ _ _); k_dflt (refine' use_s 185 6 ?hS _ _ _ _ _ _ _ _ _ _ _ _ _ _ _ _ _ ?k1 ?k2 ?k3 ?k4 ?k5 ?kK ?kz ?kd ?ku ?_; (case hS => assumption); (case k1 => k_asm); (case k2 => k_asm); (case k3 => k_asm); (case k4 => k_asm); (case k5 => k_asm); (case kK => first | exact rfl | assumption); (case kz => assumption); (case kd => first | omega | ktr_room); (case ku => first | omega | ktr_units); k_whole); intro t9 h9 tk9 F9 N9; (try dsimp only); (try k_fold)))
  trivial
section
variable {prog : Program} {w : World} {A : Around} {E : Value → Shared → Prop} {s : Shared} {Q : Value → Shared → Prop}
theorem ne_bytesSame {b : Array UInt8} {t u : Tok} (h : Q (.bool false) s) : wpAny (model prog w) A (compareOp .NotEq (.bytes b t) (.bytes b u)) Q E s := PySem.W.ne_bytes (by simpa using h)
end
theorem kwZC_2 : True := by
  (k_with "compareOp NotEq bytes bytes" => (k_here; (with_reducible refine ne_bytesSame ?_)))
  (k_with "compareOp NotEq ref ref" => (k_here; (with_reducible rename News _ _ _ _ => N9); k_dflt (refine' ne_like ?ra ?rb ?sa ?sb ?u ?he ?_; (case ra => (repeat' (first | (with_reducible exact Reads.int _ _) | (with_reducible exact Reads.str _ _) | exact ReadsAll.nil | refine' ReadsAll.cons ?_ ?_ | (refine' reads_tuple_at (News.get N9 ?m) ?c ?d ?_; (case m => k_mem); (case c => exact rfl); (case d => exact rfl)) | (refine' reads_list_at (News.get N9 ?m) ?c ?d ?_; (case m => k_mem); (case c => exact rfl); (case d => exact rfl))))); (case rb => (repeat' (first | (with_reducible exact Reads.int _ _) | (with_reducible exact Reads.str _ _) | exact ReadsAll.nil | refine' ReadsAll.cons ?_ ?_ | (refine' reads_tuple_at (News.get N9 ?m) ?c ?d ?_; (case m => k_mem); (case c => exact rfl); (case d => exact rfl)) | (refine' reads_list_at (News.get N9 ?m) ?c ?d ?_; (case m => k_mem); (case c => exact rfl); (case d => exact rfl))))); (case sa => (refine shaped_of ?l ?d; (case d => exact Nat.le_of_ble_eq_true rfl); (case l => (simp only [PyData.canLay0, PyData.canLayAll0, Bool.and_true, Bool.true_and, Bool.and_eq_true, strOkOne, decide_eq_true_eq, u8ok, and_self]; try (repeat' (first | assumption | exact (by decide +kernel) | refine And.intro ?_ ?_)))))); (case sb => (refine shaped_of ?l ?d; (case d => exact Nat.le_of_ble_eq_true rfl); (case l => (simp only [PyData.canLay0, PyData.canLayAll0, Bool.and_true, Bool.true_and, Bool.and_eq_true, strOkOne, decide_eq_true_eq, u8ok, and_self]; try (repeat' (first | assumption | exact (by decide +kernel) | refine And.intro ?_ ?_)))))); (case u => first | (show _ + 64 < cLine; omega) | ktr_units); (case he => first | rfl | (simp [PyData.eqv, PyData.eqvAll]; done)))))
  (k_with "call type:str" => (k_here; (with_reducible show wpAny _ _ (call (Value.type "str") [Value.bytes _ _, _]) _ _ _); k_dflt (refine' r_str8 ?e0 ?e1 ?e2 ?e3 ?e4 ?e5 ?e6 ?e7 ?h ?_; (case e0 => assumption); (case e1 => assumption); (case e2 => assumption); (case e3 => assumption); (case e4 => assumption); (case e5 => assumption); (case e6 => assumption); (case e7 => assumption); (case h => assumption); k_whole); intro _ _))
  (k_with "call ref" => (k_here; (with_reducible show wpAny _ _ (call (Value.ref 76) _) _ _ _); (refine' scalar_neg _ _ _ _ _ _ _ _ _ ?q0 _ _ _ _ _ _ _ _ _ _ _ _ _ _ _ _ _ ?k1 ?k2 ?k3 ?k4 ?k5 ?kK ?kz ?kd ?ku ?_; (case q0 => omega); (case k1 => k_asm); (case k2 => k_asm); (case k3 => k_asm); (case k4 => k_asm); (case k5 => k_asm); (case kK => first | exact rfl | assumption); (case kz => assumption); (case kd => first | omega | ktr_room); (case ku => first | omega | ktr_units); intro t9 h9 tk9 F9 N9; (try dsimp only); (try k_fold))))
  trivial
set_option maxHeartbeats 4000000 in
theorem S5 (w : World) (p : Program) (loose : List PySem.Str) (mean : ExcName → Option Value) (mg mb : PySem.Str → Option Value) (cs : Scope) (hcs : cs = lawScope) (s0 s1 s2 s3 s4 s5 s6 s7 g0 g1 g2 g3 g4 g5 g6 g7 x0 x1 x2 x3 x4 x5 x6 x7 : Nat) (H0 H1 H2 H3 H4 H5 H6 H7 E0 E1 E2 E3 E4 E5 E6 E7 o0 o1 o2 o3 : UInt8) (tS tO tg : Tok) :
    ∀ (dp un : Nat) (gd : Option (List Code)) (fa : Addr) (cd : Value) (A₀ : Around) (h₀ : Heap) (L : Addr) (m₁ : PySem.Str → Option Value) (s : Shared) (Q : Flow → Shared → Prop) (E : Value → Shared → Prop) (ps : Array Value) (c : Addr) (oc oN oO oS oH : Obj) (Dl : Addr) (oD : Obj) (I : Addr) (oI : Obj), Below A₀ h₀ [] h₀ → (hd.heap_39 w.params).In h₀ → Top p loose mean mg mb h₀ → FzAt w h₀ → dp + 20 < recursionLimit → un + 160 < cLine → Wrm ps c oc → LawAt c L Dl I → Fr h₀ L s.heap (fun y => if y = PySem.Str.ofString "great" then some (.str ⟨[g0, g1, g2, g3, g4, g5, g6, g7].toArray⟩ tg) else m₁ y) → News h₀ L s.heap [(64, tabObj ps), (c, oc), (L + 1, oN), (L + 1 + 1, oO), (L + 1 + 1 + 1, oS), (L + 1 + 1 + 1 + 1, oH), (Dl, oD), (I, oI)] → oS.data = .cell (some (.str ⟨[s0, s1, s2, s3, s4, s5, s6, s7].toArray⟩ tS)) → oO.data = .cell (some (.bytes [o0, o1, o2, o3].toArray tO)) → (∀ news t, Clm w p loose mean mg mb news 200 6 [.str ⟨[s0, s1, s2, s3, s4, s5, s6, s7].toArray⟩ t, .bool true] (fun t => .bytes [o0, o1, o2, o3].toArray t)) → (∀ news t, Clm w p loose mean mg mb news 192 6 [.bytes [o0, o1, o2, o3].toArray t] (fun t => .bytes [H0, H1, H2, H3, H4, H5, H6, H7].toArray t)) → (∀ news t, Clm w p loose mean mg mb news 177 6 [.bytes [o0, o1, o2, o3].toArray t] (fun t => .bytes [E0, E1, E2, E3, E4, E5, E6, E7].toArray t)) → (∀ news t t2, Clm w p loose mean mg mb news 205 3 [.bytes [o0, o1, o2, o3].toArray t, .str (PySem.Str.ofString "+/") t2] (fun t => .str ⟨[x0, x1, x2, x3, x4, x5, x6, x7].toArray⟩ t)) → H0.toNat = g0 → H1.toNat = g1 → H2.toNat = g2 → H3.toNat = g3 → H4.toNat = g4 → H5.toNat = g5 → H6.toNat = g6 → H7.toNat = g7 → E0.toNat = x0 → E1.toNat = x1 → E2.toNat = x2 → E3.toNat = x3 → E4.toNat = x4 → E5.toNat = x5 → E6.toNat = x6 → E7.toNat = x7 → (∀ c ∈ [H0, H1, H2, H3, H4, H5, H6, H7], c.toNat < 128) → (∀ c ∈ [E0, E1, E2, E3, E4, E5, E6, E7], c.toNat < 128) → PyData.strOk ⟨[g0, g1, g2, g3, g4, g5, g6, g7].toArray⟩ = true → PyData.strOk ⟨[x0, x1, x2, x3, x4, x5, x6, x7].toArray⟩ = true →
    (∀ h' tk', Fr h₀ L h' (fun y => if y = PySem.Str.ofString "great" then some (.str ⟨[g0, g1, g2, g3, g4, g5, g6, g7].toArray⟩ tg) else m₁ y) → News h₀ L h' [(64, tabObj ps), (c, oc), (L + 1, oN), (L + 1 + 1, oO), (L + 1 + 1 + 1, oS), (L + 1 + 1 + 1 + 1, oH), (Dl, oD), (I, oI)] → Q .next { s with heap := h', toks := tk' }) →
    wpAny (model PySem.Challenge.rw_qh0008_01.row.prog w) (ktrTop dp un gd (PySem.Str.ofString "law") cs L fa cd (cellsFrom (L + 1) cs.names []) []) (exec (lawSt 4) (envX (PySem.Str.ofString "law") cs L fa cd (cellsFrom (L + 1) cs.names []))) Q E s := by
  conv at hcs => rhs; whnf
  subst hcs
  k_fill
  intro dp un gd fa cd A₀ h₀ L m₁ s Q E ps c oc oN oO oS oH Dl oD I oI B X T Z hd9 hu9 W lw F N dS dO hD hH hE hX eh0 eh1 eh2 eh3 eh4 eh5 eh6 eh7 ee0 ee1 ee2 ee3 ee4 ee5 ee6 ee7 qh qe kg kx ret
  obtain ⟨l0, l1, l2, l3, l4, l5, l6, l7, l8⟩ := lw
  conv => enter [3, 1]; whnf
  k_steps
  all_goals (refine' ret _ _ ?e1 ?e2; (case e1 => k_asm); (case e2 => first | k_asm | ((with_reducible rename News _ _ _ _ => N9); exact fun p hp => N9 p (by simp only [List.mem_cons, List.not_mem_nil, or_false] at hp ⊢; rcases hp with hp | hp | hp | hp | hp | hp | hp | hp <;> simp only [hp, true_or, or_true]))))

set_option maxHeartbeats 4000000 in
theorem S6 (w : World) (p : Program) (loose : List PySem.Str) (mean : ExcName → Option Value) (mg mb : PySem.Str → Option Value) (cs : Scope) (hcs : cs = lawScope) (x0 x1 x2 x3 x4 x5 x6 x7 : Nat) (o0 o1 o2 o3 : UInt8) (tO : Tok) :
    ∀ (dp un : Nat) (gd : Option (List Code)) (fa : Addr) (cd : Value) (A₀ : Around) (h₀ : Heap) (L : Addr) (m₁ : PySem.Str → Option Value) (s : Shared) (Q : Flow → Shared → Prop) (E : Value → Shared → Prop) (ps : Array Value) (c : Addr) (oc oN oO oS oH : Obj) (Dl : Addr) (oD : Obj) (I : Addr) (oI : Obj), Below A₀ h₀ [] h₀ → (hd.heap_39 w.params).In h₀ → Top p loose mean mg mb h₀ → FzAt w h₀ → dp + 20 < recursionLimit → un + 160 < cLine → Wrm ps c oc → LawAt c L Dl I → Fr h₀ L s.heap m₁ → News h₀ L s.heap [(64, tabObj ps), (c, oc), (L + 1, oN), (L + 1 + 1, oO), (L + 1 + 1 + 1, oS), (L + 1 + 1 + 1 + 1, oH), (Dl, oD), (I, oI)] → oO.data = .cell (some (.bytes [o0, o1, o2, o3].toArray tO)) → (∀ news t t2, Clm w p loose mean mg mb news 205 3 [.bytes [o0, o1, o2, o3].toArray t, .str (PySem.Str.ofString "+/") t2] (fun t => .str ⟨[x0, x1, x2, x3, x4, x5, x6, x7].toArray⟩ t)) → (∀ news t, Clm w p loose mean mg mb news 185 6 [.str ⟨[x0, x1, x2, x3, x4, x5, x6, x7].toArray⟩ t] (fun t => .bytes [o0, o1, o2, o3].toArray t)) →
    (∀ h' tk', Fr h₀ L h' m₁ → News h₀ L h' [(64, tabObj ps), (c, oc), (L + 1, oN), (L + 1 + 1, oO), (L + 1 + 1 + 1, oS), (L + 1 + 1 + 1 + 1, oH), (Dl, oD), (I, oI)] → Q .next { s with heap := h', toks := tk' }) →
    wpAny (model PySem.Challenge.rw_qh0008_01.row.prog w) (ktrTop dp un gd (PySem.Str.ofString "law") cs L fa cd (cellsFrom (L + 1) cs.names []) []) (exec (lawSt 5) (envX (PySem.Str.ofString "law") cs L fa cd (cellsFrom (L + 1) cs.names []))) Q E s := by
  conv at hcs => rhs; whnf
  subst hcs
  k_fill
  intro dp un gd fa cd A₀ h₀ L m₁ s Q E ps c oc oN oO oS oH Dl oD I oI B X T Z hd9 hu9 W lw F N dO hX hB ret
  obtain ⟨l0, l1, l2, l3, l4, l5, l6, l7, l8⟩ := lw
  conv => enter [3, 1]; whnf
  k_steps
  all_goals (refine' ret _ _ ?e1 ?e2; (case e1 => k_asm); (case e2 => first | k_asm | ((with_reducible rename News _ _ _ _ => N9); exact fun p hp => N9 p (by simp only [List.mem_cons, List.not_mem_nil, or_false] at hp ⊢; rcases hp with hp | hp | hp | hp | hp | hp | hp | hp <;> simp only [hp, true_or, or_true]))))

set_option maxHeartbeats 4000000 in
theorem S11 (w : World) (p : Program) (loose : List PySem.Str) (mean : ExcName → Option Value) (mg mb : PySem.Str → Option Value) (cs : Scope) (hcs : cs = lawScope) (v : Int) (tN : Tok) :
    ∀ (dp un : Nat) (gd : Option (List Code)) (fa : Addr) (cd : Value) (A₀ : Around) (h₀ : Heap) (L : Addr) (m₁ : PySem.Str → Option Value) (s : Shared) (Q : Flow → Shared → Prop) (E : Value → Shared → Prop) (ps : Array Value) (c : Addr) (oc oN oO oS oH : Obj) (Dl : Addr) (oD : Obj) (I : Addr) (oI : Obj), Below A₀ h₀ [] h₀ → (hd.heap_39 w.params).In h₀ → Top p loose mean mg mb h₀ → FzAt w h₀ → dp + 20 < recursionLimit → un + 160 < cLine → Wrm ps c oc → LawAt c L Dl I → Fr h₀ L s.heap m₁ → News h₀ L s.heap [(64, tabObj ps), (c, oc), (L + 1, oN), (L + 1 + 1, oO), (L + 1 + 1 + 1, oS), (L + 1 + 1 + 1 + 1, oH), (Dl, oD), (I, oI)] → oN.data = .cell (some (.int v tN)) → 0 ≤ v →
    (∀ h' tk', Fr h₀ L h' m₁ → News h₀ L h' [(64, tabObj ps), (c, oc), (L + 1, oN), (L + 1 + 1, oO), (L + 1 + 1 + 1, oS), (L + 1 + 1 + 1 + 1, oH), (Dl, oD), (I, oI)] → Q .next { s with heap := h', toks := tk' }) →
    wpAny (model PySem.Challenge.rw_qh0008_01.row.prog w) (ktrTop dp un gd (PySem.Str.ofString "law") cs L fa cd (cellsFrom (L + 1) cs.names []) []) (exec (lawSt 10) (envX (PySem.Str.ofString "law") cs L fa cd (cellsFrom (L + 1) cs.names []))) Q E s := by
  conv at hcs => rhs; whnf
  subst hcs
  k_fill
  intro dp un gd fa cd A₀ h₀ L m₁ s Q E ps c oc oN oO oS oH Dl oD I oI B X T Z hd9 hu9 W lw F N dN h0 ret
  obtain ⟨l0, l1, l2, l3, l4, l5, l6, l7, l8⟩ := lw
  conv => enter [3, 1]; whnf
  k_steps
  all_goals (refine' ret _ _ ?e1 ?e2; (case e1 => k_asm); (case e2 => first | k_asm | ((with_reducible rename News _ _ _ _ => N9); exact fun p hp => N9 p (by simp only [List.mem_cons, List.not_mem_nil, or_false] at hp ⊢; rcases hp with hp | hp | hp | hp | hp | hp | hp | hp <;> simp only [hp, true_or, or_true]))))

end Mine
end
theorem Mine.rs_ZC : True := by (w_top off; k_with_none; trivial)

section
open PySem PySem.W PyProof.Rows PySem.Calls PySem.Spec
set_option Elab.async false
set_option maxRecDepth 100000
set_option linter.unusedVariables false
namespace Mine
theorem lawAt_off {c L Dl I : Addr} {oN oO oS oH oD oI : Obj} (x : LawAt c L Dl I) : Off c [(L + 1, oN), (L + 1 + 1, oO), (L + 1 + 1 + 1, oS), (L + 1 + 1 + 1 + 1, oH), (Dl, oD), (I, oI)] := by
  obtain ⟨l0, l1, l2, l3, l4, l5, l6, l7, l8⟩ := x
  intro q hq
  simp only [List.mem_cons, List.not_mem_nil, or_false] at hq
  rcases hq with rfl | rfl | rfl | rfl | rfl | rfl <;> (constructor <;> (dsimp only; refine neN ?_; omega))
theorem lawAt_of {c c' L Dl I : Addr} {oN oO oS oH oD oI : Obj} (x : LawAt c L Dl I) (O : Off c' [(L + 1, oN), (L + 1 + 1, oO), (L + 1 + 1 + 1, oS), (L + 1 + 1 + 1 + 1, oH), (Dl, oD), (I, oI)]) : LawAt c' L Dl I := by
  obtain ⟨l0, l1, l2, _⟩ := x
  refine ⟨l0, l1, l2, ?_⟩
  have h := fun q hq => (O q hq).2
  simp only [List.mem_cons, List.not_mem_nil, or_false, forall_eq_or_imp, forall_eq] at h
  obtain ⟨h1, h2, h3, h4, h5, h6⟩ := h
  exact ⟨Ne.symm h1, Ne.symm h2, Ne.symm h3, Ne.symm h4, Ne.symm h5, Ne.symm h6⟩
theorem Off.tail {c : Addr} {x : Addr × Obj} {l : List (Addr × Obj)} (O : Off c (x :: l)) : Off c l := fun q hq => O q (.tail _ hq)
theorem Off.more {c : Addr} {x : Addr × Obj} {l : List (Addr × Obj)} (O : Off c l) (h : x.1 ≠ 64 ∧ x.1 ≠ c) : Off c (x :: l) := fun q hq => by
  rcases List.mem_cons.mp hq with rfl | hq
  · exact h
  · exact O q hq
section
variable {w : World} {p : Program} {loose : List PySem.Str} {mean : ExcName → Option Value} {mg mb : PySem.Str → Option Value} {src msg : PySem.Str} {q n e v z : Int} {y : Nat} {t1 t2 t3 : Tok}
  {dp un : Nat} {gd : Option (List Code)} {cn : PySem.Str} {cs : Scope} {a : Addr} {ccd : Value} {cl : List (PySem.Str × Addr)} {A₀ : Around} {h₀ : Heap} {L : Addr} {m : PySem.Str → Option Value} {s : Shared} {Q E : Value → Shared → Prop} {news others : List (Addr × Obj)} {ps : Array Value} {c I C D : Addr} {oc oI oC oD : Obj}
theorem told_yesC (hS : ∀ news t1 t2 t3, ClmTQ w p loose mean mg mb news 217 12 [.str src t1, .int q t2, .int n t3] e y)
    (B : Below A₀ h₀ [] h₀) (F : Fr h₀ L s.heap m) (X : (hd.heap_39 w.params).In h₀) (N : News h₀ L s.heap ((I, oI) :: (C, oC) :: (D, oD) :: news)) (T : Top p loose mean mg mb h₀) (P : Pull (64, tabObj ps) (c, oc) news others) (O : Off c others) (hk : cs.kind = .function) (Z : FzAt w h₀) (hd' : dp + 12 < recursionLimit) (hu : un + 8 * 12 < cLine)
    (h : ∀ (D' : Addr) (t u : Tok) (h' : Heap) (tk' : Nat), Fr h₀ L h' m → News h₀ L h' ((D', tupO [.int e t, .str ⟨[y].toArray⟩ u]) :: (I, oI) :: (C, oC) :: (D, oD) :: news) → (∀ q ∈ (I, oI) :: (C, oC) :: (D, oD) :: news, q.1 < D') → Off c ((D', tupO [.int e t, .str ⟨[y].toArray⟩ u]) :: others) → Q (.ref D') { s with heap := h', toks := tk' }) :
    wpAny (model PySem.Challenge.rw_qh0008_01.row.prog w) (ktrTop dp un gd cn cs L a ccd cl []) (call (.ref 217) [.str src t1, .int q t2, .int n t3]) Q E s :=
  hS _ _ _ _ _ _ _ _ _ _ _ _ _ _ _ _ _ _ _ B F X N T hk Z hd' hu fun D' t u h' tk' F' N' l =>
    h D' t u h' tk' F' N' l (O.more ⟨Nat.ne_of_gt (l (64, tabObj ps) (.tail _ (.tail _ (.tail _ (P.sub _ (.head _)))))), Nat.ne_of_gt (l (c, oc) (.tail _ (.tail _ (.tail _ (P.sub _ (.tail _ (.head _)))))))⟩)
theorem told_notC (hS : ∀ others t1 t2 t3, ClmTE w p loose mean mg mb others 217 12 [.str src t1, .int q t2, .int n t3] msg)
    (B : Below A₀ h₀ [] h₀) (F : Fr h₀ L s.heap m) (X : (hd.heap_39 w.params).In h₀) (N : News h₀ L s.heap ((I, oI) :: (C, oC) :: (D, oD) :: news)) (T : Top p loose mean mg mb h₀) (P : Pull (64, tabObj ps) (c, oc) news others) (O : Off c others) (f3 : LCg.Off3 I C D news) (hk : cs.kind = .function) (Z : FzAt w h₀) (hd' : dp + 12 < recursionLimit) (hu : un + 8 * 12 < cLine) (W : Wrm ps c oc)
    (h : ∀ (u : Tok) (h' : Heap) (tk' : Nat) (ps' : Array Value) (c' : Addr) (oc' : Obj), Fr h₀ L h' m → News h₀ L h' ((64, tabObj ps') :: (c', oc') :: (I, oI) :: (C, oC) :: (D, oD) :: others) → Wrm ps' c' oc' → Off c' ((I, oI) :: (C, oC) :: (D, oD) :: others) → Off c' others → (∀ p ∈ others, p.1 ≠ I ∧ p.1 ≠ C ∧ p.1 ≠ D) → Q (.str msg u) { s with heap := h', toks := tk' }) :
    wpAny (model PySem.Challenge.rw_qh0008_01.row.prog w) (ktrTop dp un gd cn cs L a ccd cl []) (call (.ref 217) [.str src t1, .int q t2, .int n t3]) Q E s := by
  have mm := f3.mem
  have m1 := mm _ (P.sub _ (.head _))
  have m2 := mm _ (P.sub _ (.tail _ (.head _)))
  have O' : Off c ((I, oI) :: (C, oC) :: (D, oD) :: others) := ((O.more (x := (D, oD)) ⟨Ne.symm m1.2.2, Ne.symm m2.2.2⟩).more (x := (C, oC)) ⟨Ne.symm m1.2.1, Ne.symm m2.2.1⟩).more (x := (I, oI)) ⟨Ne.symm m1.1, Ne.symm m2.1⟩
  exact hS _ _ _ _ _ _ _ _ _ _ _ _ _ _ _ _ _ _ _ _ _ _ B F X ((Pull.skip _ (Pull.skip _ (Pull.skip _ P))).news N) T hk Z hd' hu W O' fun u h' tk' ps' c' oc' F' N' W' O'' =>
    h u h' tk' ps' c' oc' F' N' W' O'' O''.tail.tail.tail fun p hp => mm _ (P.sub _ (.tail _ (.tail _ hp)))
theorem due_yes (hS : ∀ news t1 t2 t3, ClmQ w p loose mean mg mb news 224 3 [.int v t1, .int e t2, .int z t3] e y) : ClmQ w p loose mean mg mb news 224 3 [.int v t1, .int e t2, .int z t3] e y := hS _ _ _ _
theorem due_not (hS : ∀ news t1 t2 t3, Clm w p loose mean mg mb news 224 3 [.int v t1, .int e t2, .int z t3] (fun t => .str msg t)) : Clm w p loose mean mg mb news 224 3 [.int v t1, .int e t2, .int z t3] (fun t => .str msg t) := hS _ _ _ _
end
end Mine
namespace Mine
theorem off_sub {c : Addr} {l l' : List (Addr × Obj)} (O : Off c l') (h : ∀ p ∈ l, p ∈ l') : Off c l := fun q hq => O q (h q hq)
end Mine
namespace Mine
theorem compEnd3 {h₀ h' : Heap} {L I C D : Addr} {m : PySem.Str → Option Value} {s₁ : Shared} {oI oC oD : Obj} {S : List (Addr × Obj) → Prop} {rest : Value → List (Addr × Obj) → Prop} {y : Value} {tk : Nat} {news : List (Addr × Obj)} {c : Addr} {oc : Obj} {t : Obj} (F : Fr h₀ L h' m) (N : News h₀ L h' ((64, t) :: (c, oc) :: (I, oI) :: (C, oC) :: (D, oD) :: news)) (O : Off c ((I, oI) :: (C, oC) :: (D, oD) :: news)) (off : ∀ p ∈ news, p.1 ≠ I ∧ p.1 ≠ C ∧ p.1 ≠ D) (hS : S ((64, t) :: (c, oc) :: news)) (r : rest y ((64, t) :: (c, oc) :: news)) :
    LCg.CompEnd h₀ L m s₁ I oI C oC D oD S rest y { s₁ with heap := h', toks := tk } := compEnd2 (x := (c, oc)) F N O off hS r
end Mine
namespace Mine
theorem news_cells {h₀ h : Heap} {L : Addr} {x y : Addr × Obj} {l r cells : List (Addr × Obj)} (N : News h₀ L h l) (P : Pull x y l r) (hs : ∀ p ∈ cells, p ∈ r) : News h₀ L h (x :: y :: cells) := fun p hp => by
  rcases List.mem_cons.mp hp with rfl | hp
  · exact N _ (P.sub _ (.head _))
  · rcases List.mem_cons.mp hp with rfl | hp
    · exact N _ (P.sub _ (.tail _ (.head _)))
    · exact N _ (P.sub _ (.tail _ (.tail _ (hs p hp))))
end Mine
end
theorem Mine.rs_Z2 : True := by (w_top off; k_with_none; trivial)

section
open PySem PySem.W PyProof.Rows
set_option Elab.async false
set_option maxRecDepth 100000
set_option linter.unusedVariables false
namespace Mine
set_option maxHeartbeats 4000000 in
theorem S8 (w : World) (p : Program) (loose : List PySem.Str) (mean : ExcName → Option Value) (mg mb : PySem.Str → Option Value) (cs : Scope) (hcs : cs = lawScope) (v a b : Int) (tN : Tok) (wH : Option Value) (ha : v.fdiv 65536 = a) (hb : v.fmod 65536 = b) :
    ∀ (dp un : Nat) (gd : Option (List Code)) (fa : Addr) (cd : Value) (A₀ : Around) (h₀ : Heap) (L : Addr) (m₁ : PySem.Str → Option Value) (s : Shared) (Q : Flow → Shared → Prop) (E : Value → Shared → Prop) (ps : Array Value) (c : Addr) (oc oN oO oS oH : Obj) (Dl : Addr) (oD : Obj) (I : Addr) (oI : Obj), Below A₀ h₀ [] h₀ → (hd.heap_39 w.params).In h₀ → Top p loose mean mg mb h₀ → FzAt w h₀ → dp + 20 < recursionLimit → un + 160 < cLine → Wrm ps c oc → LawAt c L Dl I → Fr h₀ L s.heap m₁ → News h₀ L s.heap [(64, tabObj ps), (c, oc), (L + 1, oN), (L + 1 + 1, oO), (L + 1 + 1 + 1, oS), (L + 1 + 1 + 1 + 1, oH), (Dl, oD), (I, oI)] → oN.data = .cell (some (.int v tN)) → oH.data = .cell wH →
    (∀ h' tk' oH' Hd ta tb n, Fr h₀ L h' m₁ → News h₀ L h' ((Hd, listOf [.int a ta, .int b tb].toArray n) :: [(64, tabObj ps), (c, oc), (L + 1, oN), (L + 1 + 1, oO), (L + 1 + 1 + 1, oS), (L + 1 + 1 + 1 + 1, oH'), (Dl, oD), (I, oI)]) → oH'.data = .cell (some (.ref Hd)) → @LT.lt Nat _ 64 Hd → @LT.lt Nat _ c Hd → Q .next { s with heap := h', toks := tk' }) →
    wpAny (model PySem.Challenge.rw_qh0008_01.row.prog w) (ktrTop dp un gd (PySem.Str.ofString "law") cs L fa cd (cellsFrom (L + 1) cs.names []) []) (exec (lawSt 7) (envX (PySem.Str.ofString "law") cs L fa cd (cellsFrom (L + 1) cs.names []))) Q E s := by
  subst ha hb
  conv at hcs => rhs; whnf
  subst hcs
  k_fill
  intro dp un gd fa cd A₀ h₀ L m₁ s Q E ps c oc oN oO oS oH Dl oD I oI B X T Z hd9 hu9 W lw F N dN dH ret
  have lw9 := lw
  obtain ⟨l0, l1, l2, l3, l4, l5, l6, l7, l8⟩ := lw
  conv => enter [3, 1]; whnf
  k_steps
  all_goals (refine' ret _ _ ?a1 ?a2 ?a3 ?a4 ?a5 ?e1 ?e2 ?e3 ?e4 ?e5; (case e3 => assumption); (case e1 => k_asm); (case e2 => k_asm); (case e4 => omega); (case e5 => omega))


theorem kwZD_1 : True := by
  k_with_none
  (k_with "storeName" => (k_here; (try dsimp only); k_dflt (refine' storeX_P ?F ?N ?_ ?a ?b; (case F => k_asm); (case N => k_asm); (case a => rfl); (case b => rfl); k_whole); intro m' h' tk' F' N'; (try k_sweep)))
  (k_with "storeName" => (k_here; (try dsimp only); (with_reducible show wpAny _ _ (storeName _ _ (Value.int _ (HAdd.hAdd _ _))) _ _ _); k_dflt (refine' storeX_I ?F ?N ?_ ?a ?b; (case F => k_asm); (case N => k_asm); (case a => rfl); (case b => rfl); k_whole); intro t' m' h' tk' F' N'; (try k_sweep)))
  (k_with "storeName" => (k_here; (try dsimp only); (with_reducible show wpAny _ _ (storeName _ _ (Value.str _ (HAdd.hAdd _ _))) _ _ _); k_dflt (refine' storeX_S ?F ?N ?_ ?a ?b; (case F => k_asm); (case N => k_asm); (case a => rfl); (case b => rfl); k_whole); intro t' m' h' tk' F' N'; (try k_sweep)))
  (k_with "eval ListComp" => (k_here; k_dflt (refine ListComp_X (by k_asm) (by with_unfolding_all rfl) (by decide) (by rfl) (by decide) (by rfl) ?_ (by intro _; rfl))))
  (k_with "SrcX" => (k_here; k_dflt (first
  | (refine SrcX.bytes4 (by rfl) (by k_asm) (by k_asm) ?_; intro g')
  | (refine SrcX.range (by rfl) (by k_asm) (by k_asm) (by assumption) (by first | decide | rfl) (by first | rfl | decide) (by first | size_fits | exact Nat.le_of_ble_eq_true rfl) ?_; intro g'; lcg_lit))))
  (k_with "CompRest" => (with_unfolding_all (refine LCg.CompRest.succ ?_; intro v' I' oI' C' oC' D' m' h' tk' E' hv' hC' hx' F' N' off' ne'; obtain ⟨t9', hv9'⟩ := hv'; (first | simp only [List.getD_cons_succ, List.getD_cons_zero] at hv9' | simp at hv9' | skip); subst hv9'; have off8 := off'; (try simp only [LCg.Off3, and_true] at off8))))
  (k_with "CompEnd" => ((with_reducible rename LCg.Off3 _ _ _ _ => off9); (with_reducible rename News _ _ _ _ => N9); (with_reducible refine LCg.CompEnd.intro (by assumption) N9 _ (fun p hp => hp) off9 trivial ?_)))
  (k_with "newTuple" => (k_here; k_dflt (refine' kup_newTuple ?F ?N ?_ ?z; (case F => k_asm); (case N => k_asm); (case z => first | exact Nat.le_of_ble_eq_true rfl | kmk_size)); intro D' h' F' N' l1))
  (k_with "CompEnd" => ((with_reducible rename LCg.Off3 _ _ _ _ => off9); (with_reducible rename News _ _ _ _ => N9); (first
  | (with_reducible refine LCg.CompEnd.intro (by assumption) N9 _ (fun p hp => hp) off9 trivial ?_)
  | (with_reducible refine compEnd1 (by assumption) N9 (by assumption) off9 trivial ?_))))
  (k_with "CompEnd" => ((with_reducible rename News _ _ _ _ => N9); (with_reducible refine compEnd3 (by assumption) N9 (by assumption) (by assumption) trivial ?_)))
  (k_with "call ref" => (k_here; (with_reducible show wpAny _ _ (call (Value.ref 217) _) _ _ _); (with_reducible rename LCg.Off3 _ _ _ _ => off9); k_dflt (refine' told_yesC ?hS ?k1 ?k2 ?k3 ?k4 ?k5 ?P ?O ?kK ?kz ?kd ?ku ?_; (case hS => assumption); (case k1 => k_asm); (case k2 => k_asm); (case k3 => k_asm); (case k4 => k_asm); (case k5 => k_asm); (case P => repeat' (first | exact Pull.here _ | refine' Pull.skip _ ?_)); (case O => assumption); (case kK => first | exact rfl | assumption); (case kz => assumption); (case kd => first | omega | ktr_room); (case ku => first | omega | ktr_units); k_whole); intro e9 t9 u9 h9 tk9 F9 N9 l9 O9; (try dsimp only); (try k_fold)))
  (k_with "call ref" => (k_here; (with_reducible show wpAny _ _ (call (Value.ref 217) _) _ _ _); (with_reducible rename LCg.Off3 _ _ _ _ => off9); k_dflt (refine' told_notC ?hS ?k1 ?k2 ?k3 ?k4 ?k5 ?P ?O ?f3 ?kK ?kz ?kd ?ku ?kW ?_; (case hS => assumption); (case k1 => k_asm); (case k2 => k_asm); (case k3 => k_asm); (case k4 => k_asm); (case k5 => k_asm); (case P => repeat' (first | exact Pull.here _ | refine' Pull.skip _ ?_)); (case O => assumption); (case f3 => assumption); (case kK => first | exact rfl | assumption); (case kz => assumption); (case kd => first | omega | ktr_room); (case ku => first | omega | ktr_units); (case kW => assumption); k_whole); intro u9 h9 tk9 ps9 c9 oc9 F9 N9 W9 O9 O8 f8; (try dsimp only); (try k_fold)))
  (k_with "call ref" => (k_here; (with_reducible show wpAny _ _ (call (Value.ref 224) _) _ _ _); k_dflt (refine' due_yes ?hS _ _ _ _ _ _ _ _ _ _ _ _ _ _ _ _ _ ?k1 ?k2 ?k3 ?k4 ?k5 ?kK ?kz ?kd ?ku ?_; (case hS => assumption); (case k1 => k_asm); (case k2 => k_asm); (case k3 => k_asm); (case k4 => k_asm); (case k5 => k_asm); (case kK => first | exact rfl | assumption); (case kz => assumption); (case kd => first | omega | ktr_room); (case ku => first | omega | ktr_units); k_whole); intro e9 t9 u9 h9 tk9 F9 N9 l9; (try dsimp only); (try k_fold)))
  (k_with "call ref" => (k_here; (with_reducible show wpAny _ _ (call (Value.ref 224) _) _ _ _); k_dflt (refine' due_not ?hS _ _ _ _ _ _ _ _ _ _ _ _ _ _ _ _ _ ?k1 ?k2 ?k3 ?k4 ?k5 ?kK ?kz ?kd ?ku ?_; (case hS => assumption); (case k1 => k_asm); (case k2 => k_asm); (case k3 => k_asm); (case k4 => k_asm); (case k5 => k_asm); (case kK => first | exact rfl | assumption); (case kz => assumption); (case kd => first | omega | ktr_room); (case ku => first | omega | ktr_units); k_whole); intro t9 h9 tk9 F9 N9; (try dsimp only); (try k_fold)))
  (k_with "compareOp NotEq ref ref" => (k_here; (with_reducible rename News _ _ _ _ => N9); k_dflt (refine' ne_like ?ra ?rb ?sa ?sb ?u ?he ?_; (case ra => (repeat' (first | (with_reducible exact Reads.int _ _) | (with_reducible exact Reads.str _ _) | exact ReadsAll.nil | refine' ReadsAll.cons ?_ ?_ | (refine' reads_tuple_at (News.get N9 ?m) ?c ?d ?_; (case m => k_mem); (case c => exact rfl); (case d => exact rfl)) | (refine' reads_list_at (News.get N9 ?m) ?c ?d ?_; (case m => k_mem); (case c => exact rfl); (case d => exact rfl))))); (case rb => (repeat' (first | (with_reducible exact Reads.int _ _) | (with_reducible exact Reads.str _ _) | exact ReadsAll.nil | refine' ReadsAll.cons ?_ ?_ | (refine' reads_tuple_at (News.get N9 ?m) ?c ?d ?_; (case m => k_mem); (case c => exact rfl); (case d => exact rfl)) | (refine' reads_list_at (News.get N9 ?m) ?c ?d ?_; (case m => k_mem); (case c => exact rfl); (case d => exact rfl))))); (case sa => (refine shaped_of ?l ?d; (case d => exact Nat.le_of_ble_eq_true rfl); (case l => (simp only [PyData.canLay0, PyData.canLayAll0, Bool.and_true, Bool.true_and, Bool.and_eq_true, strOkOne, decide_eq_true_eq, u8ok, and_self]; try (repeat' (first | assumption | exact (by decide +kernel) | refine And.intro ?_ ?_)))))); (case sb => (refine shaped_of ?l ?d; (case d => exact Nat.le_of_ble_eq_true rfl); (case l => (simp only [PyData.canLay0, PyData.canLayAll0, Bool.and_true, Bool.true_and, Bool.and_eq_true, strOkOne, decide_eq_true_eq, u8ok, and_self]; try (repeat' (first | assumption | exact (by decide +kernel) | refine And.intro ?_ ?_)))))); (case u => first | (show _ + 64 < cLine; omega) | ktr_units); (case he => first | rfl | (simp [PyData.eqv, PyData.eqvAll]; done)))))
  trivial
set_option maxHeartbeats 4000000 in
theorem S9 (w : World) (p : Program) (loose : List PySem.Str) (mean : ExcName → Option Value) (mg mb : PySem.Str → Option Value) (cs : Scope) (hcs : cs = lawScope) (s0 s1 s2 s3 s4 s5 s6 s7 : Nat) (a b : Int) (ta tb tS : Tok) (nH : Nat) (Hd : Addr) (y0 y1 : Nat) :
    ∀ (dp un : Nat) (gd : Option (List Code)) (fa : Addr) (cd : Value) (A₀ : Around) (h₀ : Heap) (L : Addr) (m₁ : PySem.Str → Option Value) (s : Shared) (Q : Flow → Shared → Prop) (E : Value → Shared → Prop) (ps : Array Value) (c : Addr) (oc oN oO oS oH : Obj) (Dl : Addr) (oD : Obj) (I : Addr) (oI : Obj), Below A₀ h₀ [] h₀ → (hd.heap_39 w.params).In h₀ → Top p loose mean mg mb h₀ → FzAt w h₀ → dp + 20 < recursionLimit → un + 160 < cLine → Wrm ps c oc → LawAt c L Dl I → Fr h₀ L s.heap m₁ → News h₀ L s.heap ((Hd, listOf [.int a ta, .int b tb].toArray nH) :: [(64, tabObj ps), (c, oc), (L + 1, oN), (L + 1 + 1, oO), (L + 1 + 1 + 1, oS), (L + 1 + 1 + 1 + 1, oH), (Dl, oD), (I, oI)]) → oS.data = .cell (some (.str ⟨[s0, s1, s2, s3, s4, s5, s6, s7].toArray⟩ tS)) → oH.data = .cell (some (.ref Hd)) → Off c [(Hd, listOf [.int a ta, .int b tb].toArray nH), (L + 1, oN), (L + 1 + 1, oO), (L + 1 + 1 + 1, oS), (L + 1 + 1 + 1 + 1, oH), (Dl, oD), (I, oI)] → (((∀ news t1 t2 t3, ClmTQ w p loose mean mg mb news 217 12 [.str ⟨[s0, s1, s2, s3, s4, s5, s6, s7].toArray⟩ t1, .int 0 t2, .int 4 t3] 4 y0) ∧ (∀ news t1 t2 t3, ClmQ w p loose mean mg mb news 224 3 [.int a t1, .int 4 t2, .int 8 t3] 4 y0) ∧ y0 < 1114112) ∨ ((∀ others t1 t2 t3, ClmTE w p loose mean mg mb others 217 12 [.str ⟨[s0, s1, s2, s3, s4, s5, s6, s7].toArray⟩ t1, .int 0 t2, .int 4 t3] (PySem.Str.ofString "Escaped character is not a Unicode scalar value (at line 1, column 5)")) ∧ (∀ news t1 t2 t3, Clm w p loose mean mg mb news 224 3 [.int a t1, .int 4 t2, .int 8 t3] (fun t => .str (PySem.Str.ofString "Escaped character is not a Unicode scalar value (at line 1, column 5)") t)))) → (((∀ news t1 t2 t3, ClmTQ w p loose mean mg mb news 217 12 [.str ⟨[s0, s1, s2, s3, s4, s5, s6, s7].toArray⟩ t1, .int 4 t2, .int 4 t3] 8 y1) ∧ (∀ news t1 t2 t3, ClmQ w p loose mean mg mb news 224 3 [.int b t1, .int 8 t2, .int 8 t3] 8 y1) ∧ y1 < 1114112) ∨ ((∀ others t1 t2 t3, ClmTE w p loose mean mg mb others 217 12 [.str ⟨[s0, s1, s2, s3, s4, s5, s6, s7].toArray⟩ t1, .int 4 t2, .int 4 t3] (PySem.Str.ofString "Escaped character is not a Unicode scalar value (at end of document)")) ∧ (∀ news t1 t2 t3, Clm w p loose mean mg mb news 224 3 [.int b t1, .int 8 t2, .int 8 t3] (fun t => .str (PySem.Str.ofString "Escaped character is not a Unicode scalar value (at end of document)") t)))) →
    (∀ h' tk' ps' c' oc', Fr h₀ L h' m₁ → News h₀ L h' [(64, tabObj ps'), (c', oc'), (L + 1, oN), (L + 1 + 1, oO), (L + 1 + 1 + 1, oS), (L + 1 + 1 + 1 + 1, oH), (Dl, oD), (I, oI)] → Wrm ps' c' oc' → LawAt c' L Dl I → Q .next { s with heap := h', toks := tk' }) →
    wpAny (model PySem.Challenge.rw_qh0008_01.row.prog w) (ktrTop dp un gd (PySem.Str.ofString "law") cs L fa cd (cellsFrom (L + 1) cs.names []) []) (exec (lawSt 8) (envX (PySem.Str.ofString "law") cs L fa cd (cellsFrom (L + 1) cs.names []))) Q E s := by
  conv at hcs => rhs; whnf
  subst hcs
  k_fill
  intro dp un gd fa cd A₀ h₀ L m₁ s Q E ps c oc oN oO oS oH Dl oD I oI B X T Z hd9 hu9 W lw F N dS dH O0 h0 h1 ret
  have lw9 := lw
  obtain ⟨l0, l1, l2, l3, l4, l5, l6, l7, l8⟩ := lw
  conv => enter [3, 1]; whnf
  rcases h0 with ⟨h0a, h0b, h0c⟩ | ⟨h0a, h0b⟩ <;> rcases h1 with ⟨h1a, h1b, h1c⟩ | ⟨h1a, h1b⟩
  all_goals k_steps
  all_goals ((with_reducible rename News _ _ _ _ => N9); refine' ret _ _ _ _ _ ?e1 ?e2 ?e3 ?e4; (case e1 => k_asm); (case e2 => (refine' news_cells N9 ?pp ?ss; (case pp => repeat' (first | exact Pull.here _ | refine' Pull.skip _ ?_)); (case ss => exact (fun p hp => (by simp only [List.mem_cons, List.not_mem_nil, or_false] at hp ⊢; rcases hp with hp | hp | hp | hp | hp | hp <;> simp only [hp, true_or, or_true]))))); (case e3 => assumption); (case e4 => first | exact lw9 | (refine' lawAt_of (oN := oN) (oO := oO) (oS := oS) (oH := oH) (oD := oD) (oI := oI) lw9 (off_sub ?oo ?ss); (case oo => assumption); (case ss => exact (fun p hp => (by simp only [List.mem_cons, List.not_mem_nil, or_false] at hp ⊢; rcases hp with hp | hp | hp | hp | hp | hp <;> simp only [hp, true_or, or_true]))))))

end Mine
end
theorem Mine.rs_ZD : True := by (w_top off; k_with_none; trivial)

section
open PySem PySem.W PyProof.Rows
set_option Elab.async false
set_option maxRecDepth 100000
set_option linter.unusedVariables false
namespace Mine
section
variable {prog : Program} {w : World} {A : Around} {E : Value → Shared → Prop} {s : Shared} {Q : Value → Shared → Prop}
theorem r_catSp {s0 s1 s2 s3 s4 s5 s6 s7 : Nat} {t u : Tok} (h : ∀ t' k, Q (.str ⟨[s0, s1, s2, s3, s4, s5, s6, s7, 32].toArray⟩ t') { s with toks := k }) :
    wpAny (model prog w) A (binaryOp .Add (.str ⟨[s0, s1, s2, s3, s4, s5, s6, s7].toArray⟩ t) (.str (PySem.Str.ofString " ") u)) Q E s := by
  have e : (⟨[s0, s1, s2, s3, s4, s5, s6, s7].toArray⟩ : PySem.Str) ++ PySem.Str.ofString " " = ⟨[s0, s1, s2, s3, s4, s5, s6, s7, 32].toArray⟩ := rfl
  exact PyProof.Rows.add_str (fun t' tk => by rw [e]; exact h t' tk) (by show 8 + 1 ≤ sizeLine; rw [sizeLine_eq]; decide)
theorem ne_strSame {x : PySem.Str} {t u : Tok} (h : Q (.bool false) s) : wpAny (model prog w) A (compareOp .NotEq (.str x t) (.str x u)) Q E s := PyProof.Rows.ne_str (by simpa using h)
end
theorem kwZE_1 : True := by
  k_with_none
  (k_with "storeName" => (k_here; (try dsimp only); k_dflt (refine' storeX_P ?F ?N ?_ ?a ?b; (case F => k_asm); (case N => k_asm); (case a => rfl); (case b => rfl); k_whole); intro m' h' tk' F' N'; (try k_sweep)))
  (k_with "storeName" => (k_here; (try dsimp only); (with_reducible show wpAny _ _ (storeName _ _ (Value.int _ (HAdd.hAdd _ _))) _ _ _); k_dflt (refine' storeX_I ?F ?N ?_ ?a ?b; (case F => k_asm); (case N => k_asm); (case a => rfl); (case b => rfl); k_whole); intro t' m' h' tk' F' N'; (try k_sweep)))
  (k_with "storeName" => (k_here; (try dsimp only); (with_reducible show wpAny _ _ (storeName _ _ (Value.str _ (HAdd.hAdd _ _))) _ _ _); k_dflt (refine' storeX_S ?F ?N ?_ ?a ?b; (case F => k_asm); (case N => k_asm); (case a => rfl); (case b => rfl); k_whole); intro t' m' h' tk' F' N'; (try k_sweep)))
  (k_with "binaryOp Add str str" => (k_here; (with_reducible refine r_catSp ?_); intro _ _))
  (k_with "compareOp NotEq str str" => (k_here; (with_reducible refine ne_strSame ?_)))
  (k_with "call ref" => (k_here; (with_reducible show wpAny _ _ (call (Value.ref 217) _) _ _ _); k_dflt (refine' told_yes ?hS ?k1 ?k2 ?k3 ?k4 ?k5 ?kK ?kz ?kd ?ku ?_; (case hS => assumption); (case k1 => k_asm); (case k2 => k_asm); (case k3 => k_asm); (case k4 => k_asm); (case k5 => k_asm); (case kK => first | exact rfl | assumption); (case kz => assumption); (case kd => first | omega | ktr_room); (case ku => first | omega | ktr_units); k_whole); intro e9 t9 u9 h9 tk9 F9 N9 l9; (try dsimp only); (try k_fold)))
  (k_with "call ref" => (k_here; (with_reducible show wpAny _ _ (call (Value.ref 217) _) _ _ _); k_dflt (refine' told_not ?hS ?P ?k1 ?k2 ?k3 ?k4 ?k5 ?kK ?kz ?kd ?ku ?kW ?kO ?_; (case hS => assumption); (case k1 => k_asm); (case k2 => k_asm); (case k3 => k_asm); (case k4 => k_asm); (case P => repeat' (first | exact Pull.here _ | refine' Pull.skip _ ?_)); (case k5 => k_asm); (case kK => first | exact rfl | assumption); (case kz => assumption); (case kd => first | omega | ktr_room); (case ku => first | omega | ktr_units); (case kW => assumption); (case kO => assumption); k_whole); intro u9 h9 tk9 ps9 c9 oc9 F9 N9 W9 O9; (try dsimp only); (try k_fold)))
  (k_with "call ref" => (k_here; (with_reducible show wpAny _ _ (call (Value.ref 224) _) _ _ _); k_dflt (refine' due_yes ?hS _ _ _ _ _ _ _ _ _ _ _ _ _ _ _ _ _ ?k1 ?k2 ?k3 ?k4 ?k5 ?kK ?kz ?kd ?ku ?_; (case hS => assumption); (case k1 => k_asm); (case k2 => k_asm); (case k3 => k_asm); (case k4 => k_asm); (case k5 => k_asm); (case kK => first | exact rfl | assumption); (case kz => assumption); (case kd => first | omega | ktr_room); (case ku => first | omega | ktr_units); k_whole); intro e9 t9 u9 h9 tk9 F9 N9 l9; (try dsimp only); (try k_fold)))
  (k_with "call ref" => (k_here; (with_reducible show wpAny _ _ (call (Value.ref 224) _) _ _ _); k_dflt (refine' due_not ?hS _ _ _ _ _ _ _ _ _ _ _ _ _ _ _ _ _ ?k1 ?k2 ?k3 ?k4 ?k5 ?kK ?kz ?kd ?ku ?_; (case hS => assumption); (case k1 => k_asm); (case k2 => k_asm); (case k3 => k_asm); (case k4 => k_asm); (case k5 => k_asm); (case kK => first | exact rfl | assumption); (case kz => assumption); (case kd => first | omega | ktr_room); (case ku => first | omega | ktr_units); k_whole); intro t9 h9 tk9 F9 N9; (try dsimp only); (try k_fold)))
  (k_with "compareOp NotEq ref ref" => (k_here; (with_reducible rename News _ _ _ _ => N9); k_dflt (refine' ne_like ?ra ?rb ?sa ?sb ?u ?he ?_; (case ra => (repeat' (first | (with_reducible exact Reads.int _ _) | (with_reducible exact Reads.str _ _) | exact ReadsAll.nil | refine' ReadsAll.cons ?_ ?_ | (refine' reads_tuple_at (News.get N9 ?m) ?c ?d ?_; (case m => k_mem); (case c => exact rfl); (case d => exact rfl)) | (refine' reads_list_at (News.get N9 ?m) ?c ?d ?_; (case m => k_mem); (case c => exact rfl); (case d => exact rfl))))); (case rb => (repeat' (first | (with_reducible exact Reads.int _ _) | (with_reducible exact Reads.str _ _) | exact ReadsAll.nil | refine' ReadsAll.cons ?_ ?_ | (refine' reads_tuple_at (News.get N9 ?m) ?c ?d ?_; (case m => k_mem); (case c => exact rfl); (case d => exact rfl)) | (refine' reads_list_at (News.get N9 ?m) ?c ?d ?_; (case m => k_mem); (case c => exact rfl); (case d => exact rfl))))); (case sa => (refine shaped_of ?l ?d; (case d => exact Nat.le_of_ble_eq_true rfl); (case l => (simp only [PyData.canLay0, PyData.canLayAll0, Bool.and_true, Bool.true_and, Bool.and_eq_true, strOkOne, decide_eq_true_eq, u8ok, and_self]; try (repeat' (first | assumption | exact (by decide +kernel) | refine And.intro ?_ ?_)))))); (case sb => (refine shaped_of ?l ?d; (case d => exact Nat.le_of_ble_eq_true rfl); (case l => (simp only [PyData.canLay0, PyData.canLayAll0, Bool.and_true, Bool.true_and, Bool.and_eq_true, strOkOne, decide_eq_true_eq, u8ok, and_self]; try (repeat' (first | assumption | exact (by decide +kernel) | refine And.intro ?_ ?_)))))); (case u => first | (show _ + 64 < cLine; omega) | ktr_units); (case he => first | rfl | (simp [PyData.eqv, PyData.eqvAll]; done)))))
  trivial
set_option maxHeartbeats 4000000 in
theorem S10 (w : World) (p : Program) (loose : List PySem.Str) (mean : ExcName → Option Value) (mg mb : PySem.Str → Option Value) (cs : Scope) (hcs : cs = lawScope) (s0 s1 s2 s3 s4 s5 s6 s7 : Nat) (v : Int) (tN tS : Tok) (y : Nat) :
    ∀ (dp un : Nat) (gd : Option (List Code)) (fa : Addr) (cd : Value) (A₀ : Around) (h₀ : Heap) (L : Addr) (m₁ : PySem.Str → Option Value) (s : Shared) (Q : Flow → Shared → Prop) (E : Value → Shared → Prop) (ps : Array Value) (c : Addr) (oc oN oO oS oH : Obj) (Dl : Addr) (oD : Obj) (I : Addr) (oI : Obj), Below A₀ h₀ [] h₀ → (hd.heap_39 w.params).In h₀ → Top p loose mean mg mb h₀ → FzAt w h₀ → dp + 20 < recursionLimit → un + 160 < cLine → Wrm ps c oc → LawAt c L Dl I → Fr h₀ L s.heap m₁ → News h₀ L s.heap [(64, tabObj ps), (c, oc), (L + 1, oN), (L + 1 + 1, oO), (L + 1 + 1 + 1, oS), (L + 1 + 1 + 1 + 1, oH), (Dl, oD), (I, oI)] → oS.data = .cell (some (.str ⟨[s0, s1, s2, s3, s4, s5, s6, s7].toArray⟩ tS)) → oN.data = .cell (some (.int v tN)) → (((∀ news t1 t2 t3, ClmTQ w p loose mean mg mb news 217 12 [.str ⟨[s0, s1, s2, s3, s4, s5, s6, s7].toArray⟩ t1, .int 0 t2, .int 8 t3] 8 y) ∧ (∀ news t1 t2 t3, ClmQ w p loose mean mg mb news 224 3 [.int v t1, .int 8 t2, .int 8 t3] 8 y) ∧ (∀ news t1 t2 t3, ClmTQ w p loose mean mg mb news 217 12 [.str ⟨[s0, s1, s2, s3, s4, s5, s6, s7, 32].toArray⟩ t1, .int 0 t2, .int 8 t3] 8 y) ∧ (∀ news t1 t2 t3, ClmQ w p loose mean mg mb news 224 3 [.int v t1, .int 8 t2, .int 9 t3] 8 y) ∧ y < 1114112) ∨ ((∀ others t1 t2 t3, ClmTE w p loose mean mg mb others 217 12 [.str ⟨[s0, s1, s2, s3, s4, s5, s6, s7].toArray⟩ t1, .int 0 t2, .int 8 t3] (PySem.Str.ofString "Escaped character is not a Unicode scalar value (at end of document)")) ∧ (∀ news t1 t2 t3, Clm w p loose mean mg mb news 224 3 [.int v t1, .int 8 t2, .int 8 t3] (fun t => .str (PySem.Str.ofString "Escaped character is not a Unicode scalar value (at end of document)") t)) ∧ (∀ others t1 t2 t3, ClmTE w p loose mean mg mb others 217 12 [.str ⟨[s0, s1, s2, s3, s4, s5, s6, s7, 32].toArray⟩ t1, .int 0 t2, .int 8 t3] (PySem.Str.ofString "Escaped character is not a Unicode scalar value (at line 1, column 9)")) ∧ (∀ news t1 t2 t3, Clm w p loose mean mg mb news 224 3 [.int v t1, .int 8 t2, .int 9 t3] (fun t => .str (PySem.Str.ofString "Escaped character is not a Unicode scalar value (at line 1, column 9)") t)))) →
    (∀ h' tk' ps' c' oc', Fr h₀ L h' m₁ → News h₀ L h' [(64, tabObj ps'), (c', oc'), (L + 1, oN), (L + 1 + 1, oO), (L + 1 + 1 + 1, oS), (L + 1 + 1 + 1 + 1, oH), (Dl, oD), (I, oI)] → Wrm ps' c' oc' → LawAt c' L Dl I → Q .next { s with heap := h', toks := tk' }) →
    wpAny (model PySem.Challenge.rw_qh0008_01.row.prog w) (ktrTop dp un gd (PySem.Str.ofString "law") cs L fa cd (cellsFrom (L + 1) cs.names []) []) (exec (lawSt 9) (envX (PySem.Str.ofString "law") cs L fa cd (cellsFrom (L + 1) cs.names []))) Q E s := by
  conv at hcs => rhs; whnf
  subst hcs
  k_fill
  intro dp un gd fa cd A₀ h₀ L m₁ s Q E ps c oc oN oO oS oH Dl oD I oI B X T Z hd9 hu9 W lw F N dS dN h0 ret
  have lw9 := lw
  obtain ⟨l0, l1, l2, l3, l4, l5, l6, l7, l8⟩ := lw
  conv => enter [3, 1]; whnf
  have O0 := lawAt_off (oN := oN) (oO := oO) (oS := oS) (oH := oH) (oD := oD) (oI := oI) lw9
  rcases h0 with ⟨h0a, h0b, h0c, h0d, h0e⟩ | ⟨h0a, h0b, h0c, h0d⟩
  all_goals k_steps
  all_goals ((with_reducible rename News _ _ _ _ => N9); refine' ret _ _ _ _ _ ?e1 ?e2 ?e3 ?e4; (case e1 => k_asm); (case e2 => (refine' news_cells N9 ?pp ?ss; (case pp => repeat' (first | exact Pull.here _ | refine' Pull.skip _ ?_)); (case ss => exact (fun p hp => (by simp only [List.mem_cons, List.not_mem_nil, or_false] at hp ⊢; rcases hp with hp | hp | hp | hp | hp | hp <;> simp only [hp, true_or, or_true]))))); (case e3 => assumption); (case e4 => first | exact lw9 | (refine' lawAt_of (oN := oN) (oO := oO) (oS := oS) (oH := oH) (oD := oD) (oI := oI) lw9 (off_sub ?oo ?ss); (case oo => assumption); (case ss => exact (fun p hp => (by simp only [List.mem_cons, List.not_mem_nil, or_false] at hp ⊢; rcases hp with hp | hp | hp | hp | hp | hp <;> simp only [hp, true_or, or_true]))))))

end Mine
end
theorem Mine.rs_ZE : True := by (w_top off; k_with_none; trivial)

section
open PySem PySem.W PyProof.Rows PySem.Calls PySem.Spec
set_option Elab.async false
set_option maxRecDepth 100000
set_option linter.unusedVariables false
namespace Mine
open LCg
section
variable {prog : Program} {w : World} {A : Around} {E : Value → Shared → Prop} {R : Result → Shared → Prop} {s : Shared} {h₀ : Heap} {L : Addr} {m : PySem.Str → Option Value} {env cenv : Env}
  {elt it1 it2 : Expr} {x z : PySem.Str} {px pz pos : Pos} {scope : Scope} {it acc : Value}
abbrev comp2 (elt it1 it2 : Expr) (x z : PySem.Str) (px pz : Pos) (scope : Scope) (pos : Pos) : Expr := .ListComp elt [⟨.Name x px, it1, [], 0⟩, ⟨.Name z pz, it2, [], 0⟩] scope pos
theorem turn_in (cenv : Env) : compTurn (comp2 elt it1 it2 x z px pz scope pos) 1 it acc cenv = (standAt it2.pos >>= fun _ => pyNext it >>= fun r => match r with
      | none => pure (.done .next)
      | some v => letOwnedTupleGo (.Name z pz) it v >>= fun _ => assign (.Name z pz) cenv v >>= fun _ =>
        (eval elt cenv >>= fun x => call (.builtin "list.append") [acc, x] >>= fun _ => pure ()) >>= fun _ =>
          again (.compLoop (comp2 elt it1 it2 x z px pz scope pos) 1 it acc cenv)) := by rfl
theorem turn_out (cenv : Env) : compTurn (comp2 elt it1 it2 x z px pz scope pos) 0 it acc cenv = (standAt it1.pos >>= fun _ => pyNext it >>= fun r => match r with
      | none => pure (.done .next)
      | some v => letOwnedTupleGo (.Name x px) it v >>= fun _ => assign (.Name x px) cenv v >>= fun _ =>
        eval it2 cenv >>= fun y => standAt it2.pos >>= fun _ => foldedSetIterable it2 cenv y >>= fun y => holding [y] (pyIter y) >>= fun i => runOwn (.compStart (comp2 elt it1 it2 x z px pz scope pos) 1 i acc cenv) cenv >>= fun _ =>
          again (.compLoop (comp2 elt it1 it2 x z px pz scope pos) 0 it acc cenv)) := by rfl
theorem start_in (h0 : codeAny (model prog w) A (.compLoop (comp2 elt it1 it2 x z px pz scope pos) 1 it acc cenv) R s)
    (h : wpAny (model prog w) A (pyIter it) (fun it' s' => codeAny (model prog w) A (.compLoop (comp2 elt it1 it2 x z px pz scope pos) 1 it' acc cenv) R s') (notedBy (model prog w) A cenv fun x s' => R (.error x) s') s) :
    codeAny (model prog w) A (.compStart (comp2 elt it1 it2 x z px pz scope pos) 1 it acc cenv) R s := by
  refine codeAny_of_tree ?_
  show wpAny _ _ ((compStart (comp2 elt it1 it2 x z px pz scope pos) 1 it acc cenv).onRaise (fun x => do noteFrame x cenv; standAt theWindowsPlace)) _ _ s
  refine PySem.wpAny_notedAt ?_
  unfold compStart
  show wpAny _ _ (ask >>= _) _ _ s
  refine wpAny_bind (wpAny_askSetting (wpAny_ite ?_))
  split
  · first
      | exact wpAny_bind (wpAny_pure (wpAny_pure (And.intro rfl h0)))
      | exact wpAny_pure (And.intro rfl h0)
  · first
      | exact wpAny_bind (wpAny_rule (wpAny_bind (wpAny_standAt (wpAny_bind (wpAny_mono h (fun it' s' h' => wpAny_pure (And.intro rfl h')) fun _ _ x => x)))))
      | (refine wpAny_bind (wpAny_rule ?_); show wpAny _ _ (standAt it2.pos >>= _) _ _ s; exact wpAny_bind (wpAny_standAt (wpAny_bind (wpAny_mono h (fun it' s' h' => wpAny_pure (And.intro rfl h')) fun _ _ x => x))))
end
end Mine
namespace Mine
open LCg
section
variable {prog : Program} {w : World} {A : Around} {R : Result → Shared → Prop} {s : Shared} {h₀ : Heap} {L : Addr} {m : PySem.Str → Option Value} {env : Env}
  {elt it1 it2 : Expr} {x z : PySem.Str} {px pz pos : Pos} {scope : Scope} {cl : List (PySem.Str × Addr)}
theorem inner_loop {I C D : Addr} {n : Nat} {P : Nat → Value → Prop} {St : Nat → Heap → Prop} {more : List (Addr × Obj)} {FF : Value → Prop} {v : Value} {tot : Nat}
    (W : Walks prog w A I [I] [I] n P St) (hIo : ∀ i h, St i h → ∃ o, h.get? I = some o) (hSt : ∀ i h h' o, St i h → h.get? I = some o → h'.get? I = some o → St i h')
    (hz : scope.names.lookup z = some .local) (hkind : scope.kind = .function) (hxz : x ≠ z) (hIC : I ≠ C) (hID : I ≠ D) (hCD : C ≠ D) (hIL : L ≠ I) (hCL : C ≠ L) (hDL : D ≠ L) (hI₀ : h₀.get? I = none) (hC₀ : h₀.get? C = none) (hD₀ : h₀.get? D = none)
    (off : ∀ p ∈ more, p.1 ≠ I ∧ p.1 ≠ C ∧ p.1 ≠ D)
    (hel : ∀ u m₂ oI oC ys h tk (E' : Value → Shared → Prop), (∃ j, P j u) → NsObj oC m₂ → m₂ x = some v → m₂ z = some u → Fr h₀ L h m → News h₀ L h ((I, oI) :: (C, oC) :: (D, lst ys) :: more) →
      wpAny (model prog w) A (eval elt (compEnvC scope cl C env)) (fun y s' => ∃ h' tk', s' = { s with heap := h', toks := tk' } ∧ Fr h₀ L h' m ∧ News h₀ L h' ((I, oI) :: (C, oC) :: (D, lst ys) :: more) ∧ FF y) E' { s with heap := h, toks := tk })
    {ys₀ : List Value} {m₀ : PySem.Str → Option Value} {h : Heap} {tk : Nat} (hst : St 0 h) (F : Fr h₀ L h m) (hn : h.Ns C m₀) (hv : m₀ x = some v) (N : News h₀ L h ((D, lst ys₀) :: more)) (hF : ∀ y ∈ ys₀, FF y) (hsz : ys₀.length + n ≤ tot) (htot : tot ≤ sizeLine)
    (fin : ∀ h' tk' ys m₂, Fr h₀ L h' m → h'.Ns C m₂ → News h₀ L h' ((D, lst ys) :: more) → (∀ y ∈ ys, FF y) → ys.length = ys₀.length + n → R (.ok .next) { s with heap := h', toks := tk' }) :
    codeAny (model prog w) A (.compLoop (comp2 elt it1 it2 x z px pz scope pos) 1 (.ref I) (.ref D) (compEnvC scope cl C env)) R { s with heap := h, toks := tk } := by
  refine codeAny_loop rfl (fun k s' => ∃ h' tk i ys m', s' = { s with heap := h', toks := tk } ∧ i ≤ n ∧ k = n + 1 - i ∧ ys.length = ys₀.length + i ∧ St i h' ∧ Fr h₀ L h' m ∧ h'.Ns C m' ∧ m' x = some v ∧ News h₀ L h' ((D, lst ys) :: more) ∧ ∀ y ∈ ys, FF y) ?_ (n + 1)
    ⟨h, tk, 0, ys₀, m₀, rfl, Nat.zero_le _, rfl, rfl, hst, F, hn, hv, N, hF⟩
  rintro k s' ⟨h', tk, i, ys, m', rfl, hi, rfl, hyl, hst', F', hn', hv', N', hF'⟩
  show wpAny _ _ ((compTurn (comp2 elt it1 it2 x z px pz scope pos) 1 (.ref I) (.ref D) (compEnvC scope cl C env)).onRaise (fun x => do noteFrame x (compEnvC scope cl C env); theTreesLotGoes x)) _ _ _
  refine wpAny_noted ?_
  rw [turn_in]
  refine wpAny_bind (wpAny_standAt (wpAny_bind ?_))
  by_cases hlt : i < n
  · refine W.item i _ _ _ hlt hst' fun u h₂ tk₂ hPv hst₂ hk₂ => ?_
    refine wpAny_bind (wpAny_of_eq (show letOwnedTupleGo (.Name z pz) (.ref I) u = pure () by rfl) ?_)
    refine wpAny_bind (wpAny_assign_Name (wpAny_storeName_local (lookup_relabel_local hz) (hn'.at' fun o e => hk₂ _ o (by simpa using Ne.symm hIC) e) (fun h₃ hn₃ hs₃ => ?_) (by simp [compEnvC, relabel, hkind])))
    have hst₃ : St (i + 1) h₃ := W.frame _ _ _ hst₂ fun b hb o e => hs₃.extBut b o (fun q => hIC ((List.mem_singleton.mp hb).symm.trans q)) e
    obtain ⟨oI, heI⟩ := hIo _ _ hst₃
    obtain ⟨oC, heC, hoC⟩ := ns_obj hn₃
    have F₃ : Fr h₀ L h₃ m := (fr_but F' hk₂ hIL hI₀).change hs₃ hCL hC₀
    have N₂ : News h₀ L h₂ ((D, lst ys) :: more) := news_but N' hk₂ fun p hp => by
      rcases List.mem_cons.mp hp with rfl | hp
      · exact Ne.symm hID
      · exact (off p hp).1
    have N₃ : News h₀ L h₃ ((I, oI) :: (C, oC) :: (D, lst ys) :: more) := fun p hp => by
      rcases List.mem_cons.mp hp with rfl | hp
      · exact ⟨heI, Ne.symm hIL, hI₀⟩
      · rcases List.mem_cons.mp hp with rfl | hp
        · exact ⟨heC, hCL, hC₀⟩
        · have q := N₂ p hp
          refine ⟨hs₃.extBut _ _ ?_ q.1, q.2⟩
          rcases List.mem_cons.mp hp with rfl | hp
          · exact Ne.symm hCD
          · exact (off p hp).2.1
    refine wpAny_bind (wpAny_bind (wpAny_mono (hel u _ oI oC ys h₃ _ _ ⟨i, hPv⟩ hoC (by simp [hxz, hv']) (by simp) F₃ N₃) (fun y s₄ h₄ => ?_) fun _ _ e => e))
    obtain ⟨h₄, tk₄, rfl, F₄, N₄, hy⟩ := h₄
    have zI := (N₄ (I, oI) List.mem_cons_self).1
    have zC := (N₄ (C, oC) (List.mem_cons_of_mem _ List.mem_cons_self)).1
    have zD := (N₄ (D, lst ys) (List.mem_cons_of_mem _ (List.mem_cons_of_mem _ List.mem_cons_self))).1
    have N₄' : News h₀ L h₄ more := fun p hp => N₄ p (List.mem_cons_of_mem _ (List.mem_cons_of_mem _ (List.mem_cons_of_mem _ hp)))
    have hst₄ : St (i + 1) h₄ := hSt _ _ _ _ hst₃ heI zI
    refine wpAny_bind (append_at (hsz := by show ys.toArray.size ≤ sizeLine; rw [List.size_toArray, hyl]; omega) zD fun h₅ hs₅ hD₅ => ?_)
    refine wpAny_pure (wpAny_pure ⟨rfl, n + 1 - (i + 1), by omega, h₅, tk₄, i + 1, ys ++ [y], _, rfl, hlt, rfl, by rw [List.length_append, List.length_singleton, hyl]; omega, W.frame _ _ _ hst₄ fun b hb o e => hs₅.extBut b o (fun q => hID ((List.mem_singleton.mp hb).symm.trans q)) e, F₄.change hs₅ hDL hD₀,
      (hoC.ns zC).sameBut hs₅ hCD, by simp [hxz, hv'], fun p hp => ?_, fun y' hy' => ?_⟩)
    · rcases List.mem_cons.mp hp with rfl | hp
      · exact ⟨hD₅.trans (congrArg some (lst_snoc ys y)), hDL, hD₀⟩
      · exact ⟨hs₅.extBut _ _ (off p hp).2.2 (N₄' p hp).1, (N₄' p hp).2⟩
    · rcases List.mem_append.mp hy' with q | q
      · exact hF' y' q
      · rw [List.mem_singleton.mp q]; exact hy
  · obtain rfl : i = n := Nat.le_antisymm hi (Nat.not_lt.mp hlt)
    refine W.done _ _ _ hst' fun h₂ tk₂ hk₂ => ?_
    refine wpAny_pure (fin h₂ tk₂ ys m' (fr_but F' hk₂ hIL hI₀) (hn'.at' fun o e => hk₂ _ o (by simpa using Ne.symm hIC) e) (news_but N' hk₂ fun p hp => ?_) hF' hyl)
    rcases List.mem_cons.mp hp with rfl | hp
    · exact Ne.symm hID
    · exact (off p hp).1
end
end Mine
end
theorem Mine.rs_L4 : True := by (w_top off; k_with_none; trivial)

section
open PySem PySem.W PyProof.Rows PySem.Calls PySem.Spec
set_option Elab.async false
set_option maxRecDepth 100000
set_option linter.unusedVariables false
namespace Mine
open LCg
section
variable {prog : Program} {w : World} {A : Around} {E : Value → Shared → Prop} {s : Shared} {h₀ : Heap} {L : Addr} {m : PySem.Str → Option Value} {env : Env}
  {elt it1 it2 : Expr} {x z : PySem.Str} {px pz pos : Pos} {scope : Scope} {cl : List (PySem.Str × Addr)}
abbrev lobj (its : Array Value) (k : Nat) : Obj := { cls := .type "list", data := .seq its k }
theorem block_2 {ax I : Addr} {its : Array Value} {kk : Nat} {lit : PySem.Str} {FF : Value → Prop} {news : List (Addr × Obj)} {s₂ : Shared} {RR : Value → Addr → Result → Shared → Prop}
    (hh : A.handled = none) (hcell : ∀ y ∈ scope.names, y.2 ≠ .cell) (hkind : scope.kind = .function) (hx : scope.names.lookup x = some .local) (hz : scope.names.lookup z = some .local) (hxz : x ≠ z)
    (hI : s₂.heap.IsListIter I ax 0) (F : Fr h₀ L s₂.heap m) (N : News h₀ L s₂.heap news) (hm : (ax, lobj its kk) ∈ news) (hIL : L ≠ I) (hI₀ : h₀.get? I = none) (offI : ∀ p ∈ news, p.1 ≠ I)
    (hsz : its.size * lit.cps.size ≤ sizeLine) (ha : lit.cps.all (· < 128) = true) (hs2 : ∀ C v, foldedSetIterable it2 (compEnvC scope cl C env) v = pure v)
    (hit : ∀ C (E : Value → Shared → Prop) (s : Shared) (Q : Value → Shared → Prop), (∀ t k, Q (.str lit t) { s with toks := k }) → wpAny (model prog w) A (eval it2 (compEnvC scope cl C env)) Q E s)
    (hel : ∀ v u m₂ I2 o2 C oC D ys I1 o1 h tk (E' : Value → Shared → Prop), (∃ i : Nat, its[i]? = some v) → (∃ j, SignAt lit j u) → NsObj oC m₂ → m₂ x = some v → m₂ z = some u → Fr h₀ L h m → News h₀ L h ((I2, o2) :: (C, oC) :: (D, lst ys) :: (I1, o1) :: news) →
      wpAny (model prog w) A (eval elt (compEnvC scope cl C env)) (fun y s' => ∃ h' tk', s' = { s₂ with heap := h', toks := tk' } ∧ Fr h₀ L h' m ∧ News h₀ L h' ((I2, o2) :: (C, oC) :: (D, lst ys) :: (I1, o1) :: news) ∧ FF y) E' { s₂ with heap := h, toks := tk })
    (hRR : ∀ D C h tk m' ys, Fr h₀ L h m → News h₀ L h ((D, lst ys) :: news) → h.Ns C m' → h₀.get? C = none → C ≠ L → C ≠ D → (∀ p ∈ news, p.1 ≠ C ∧ p.1 < D) → (∀ y ∈ ys, FF y) → ys.length = its.size * lit.cps.size → RR (.ref D) C (.ok .next) { s₂ with heap := h, toks := tk }) :
    wpAny (model prog w) A (newList []) (fun acc s₃ => wpAny (model prog w) A (newFunctionEnv scope env.globals cl [] env.qual none .none (some env)) (fun cenv s₄ =>
      codeAny (model prog w) A (.compStart (comp2 elt it1 it2 x z px pz scope pos) 0 (.ref I) acc { cenv with scope := relabel scope env }) (RR acc cenv.locals) s₄) E s₃) E s₂ := by
  refine wpAny_newObj_type (wpAny_newFunctionEnv hcell (by intro y hy; simp at hy) (fun h₁ hns₁ hsb₁ => ?_) hkind)
  dsimp only at hns₁ hsb₁ ⊢
  generalize hH2 : s₂.heap.push { cls := .type "list", dict := none, data := .seq ([] : List Value).toArray } = H2 at hns₁ hsb₁ ⊢
  generalize hDe : s₂.heap.objs.size = D at *
  have hCe : H2.objs.size = D + 1 := by rw [← hH2, Heap.size_push, hDe]
  generalize hCg : H2.objs.size = C at *
  have lt_ne : ∀ b, b < D → b ≠ C ∧ b ≠ D := fun b hb => ⟨by rw [hCe]; exact Nat.ne_of_lt (Nat.lt_succ_of_lt hb), Nat.ne_of_lt hb⟩
  have hDC : D ≠ C := by rw [hCe]; exact Nat.ne_of_lt (Nat.lt_succ_self _)
  have small : ∀ b o, s₂.heap.get? b = some o → b < D := fun b o e => hDe ▸ Heap.lt_size e
  have old : ∀ b o, s₂.heap.get? b = some o → h₁.get? b = some o := fun b o e => hsb₁.extBut b o (lt_ne b (small b o e)).1 (Heap.get?_push_of_some _ (hH2 ▸ Heap.get?_push_of_some _ e))
  have hD₁ : h₁.get? D = some (lst []) := hsb₁.extBut _ _ hDC (Heap.get?_push_of_some _ (hH2 ▸ hDe ▸ Heap.get?_push_size _ rfl))
  have fresh₀ : ∀ a, D ≤ a → h₀.get? a = none := fun a ha => by
    cases e : h₀.get? a with
    | none => rfl
    | some o' => exact absurd (small a o' (F.keep a o' e)) (Nat.not_lt.mpr ha)
  have hD₀ : h₀.get? D = none := fresh₀ _ (Nat.le_refl _)
  have hC₀ : h₀.get? C = none := fresh₀ _ (by rw [hCe]; exact Nat.le_succ _)
  have hLlt : L < D := hDe ▸ F.ns.lt
  have hDL : D ≠ L := Ne.symm (lt_ne L hLlt).2
  have hCL : C ≠ L := Ne.symm (lt_ne L hLlt).1
  have hIlt : I < D := by
    obtain ⟨o, e, _⟩ := id hI
    exact small I o e
  have hIC : I ≠ C := (lt_ne I hIlt).1
  have hID : I ≠ D := (lt_ne I hIlt).2
  have hax : ax < D := small ax _ (N _ hm).1
  have hnl : ∀ p ∈ news, p.1 < D := fun p hp => small _ _ (N p hp).1
  have W := Walks.list (prog := prog) (w := w) hh I ax (offI _ hm) its
  have listAt : ∀ h, News h₀ L h news → h.IsList ax its := fun h N' => ⟨_, (N' _ hm).1, rfl, _, rfl⟩
  have N₁ : News h₀ L h₁ ((D, lst []) :: news) := fun p hp => by
    rcases List.mem_cons.mp hp with rfl | hp
    · exact ⟨hD₁, hDL, hD₀⟩
    · exact ⟨old _ _ (N p hp).1, (N p hp).2⟩
  have loop : ∀ s₃ : Shared, s₃ = { s₂ with heap := h₁, toks := s₂.toks + ([] : List (PySem.Str × Value)).length } →
      codeAny (model prog w) A (.compLoop (comp2 elt it1 it2 x z px pz scope pos) 0 (.ref I) (.ref D) (compEnvC scope cl C env)) (RR (.ref D) C) s₃ := by
    rintro s₃ rfl
    refine codeAny_loop rfl (fun k s' => ∃ h' tk i ys m', s' = { s₂ with heap := h', toks := tk } ∧ i ≤ its.size ∧ k = its.size + 1 - i ∧ ys.length = i * lit.cps.size ∧ h'.IsListIter I ax i ∧ Fr h₀ L h' m ∧ h'.Ns C m' ∧ News h₀ L h' ((D, lst ys) :: news) ∧ ∀ y ∈ ys, FF y) ?_ (its.size + 1)
      ⟨h₁, _, 0, [], _, rfl, Nat.zero_le _, rfl, by simp, hI.at fun o e => old _ _ e, F.keeps old, hns₁, N₁, fun y hy => nomatch hy⟩
    rintro k s' ⟨h', tk, i, ys, m', rfl, hi, rfl, hyl, hit', F', hn', N', hF'⟩
    show wpAny _ _ ((compTurn (comp2 elt it1 it2 x z px pz scope pos) 0 (.ref I) (.ref D) (compEnvC scope cl C env)).onRaise (fun x => do noteFrame x (compEnvC scope cl C env); theTreesLotGoes x)) _ _ _
    refine wpAny_noted ?_
    rw [turn_out]
    refine wpAny_bind (wpAny_standAt (wpAny_bind ?_))
    have Nn : News h₀ L h' news := fun p hp => N' p (.tail _ hp)
    have offD : ∀ p ∈ (D, lst ys) :: news, p.1 ≠ I := fun p hp => by
      rcases List.mem_cons.mp hp with rfl | hp
      · exact Ne.symm hID
      · exact offI p hp
    by_cases hlt : i < its.size
    · refine W.item i _ _ _ hlt ⟨hit', listAt _ Nn⟩ fun v h₂ tk₂ hPv hst₂ hk₂ => ?_
      refine wpAny_bind (wpAny_of_eq (show letOwnedTupleGo (.Name x px) (.ref I) v = pure () by rfl) ?_)
      refine wpAny_bind (wpAny_assign_Name (wpAny_storeName_local (lookup_relabel_local hx) (hn'.at' fun o e => hk₂ _ o (by simpa using Ne.symm hIC) e) (fun h₃ hn₃ hs₃ => ?_) (by simp [compEnvC, relabel, hkind])))
      have F₃ : Fr h₀ L h₃ m := (fr_but F' hk₂ hIL hI₀).change hs₃ hCL hC₀
      have N₂ : News h₀ L h₂ ((D, lst ys) :: news) := news_but N' hk₂ offD
      have N₃ : News h₀ L h₃ ((D, lst ys) :: news) := fun p hp => by
        have q := N₂ p hp
        refine ⟨hs₃.extBut _ _ ?_ q.1, q.2⟩
        rcases List.mem_cons.mp hp with rfl | hp
        · exact hDC
        · exact (lt_ne _ (hnl p hp)).1
      have hit₃ : h₃.IsListIter I ax (i + 1) := hst₂.1.at fun o e => hs₃.extBut _ _ hIC e
      obtain ⟨o1, he1, hr1⟩ := id hit₃
      refine wpAny_bind (hit C _ _ _ fun t tk₃ => ?_)
      refine wpAny_bind (wpAny_standAt (wpAny_bind (wpAny_of_eq (hs2 C _) (wpAny_bind (wpAny_holding (wpAny_pyIter_ascii ha ?_))))))
      dsimp only
      generalize hI2 : h₃.objs.size = I2
      have up : ∀ b o, h₃.get? b = some o → (h₃.push { cls := .type "str_ascii_iterator", data := .fields #[.str lit t, .int 0 0] }).get? b = some o := fun b o e => Heap.get?_push_of_some _ e
      have lt3 : ∀ b o, h₃.get? b = some o → b ≠ I2 := fun b o e => hI2 ▸ Nat.ne_of_lt (Heap.lt_size e)
      have new0 : h₀.get? I2 = none := by
        cases e : h₀.get? I2 with
        | none => rfl
        | some o' => exact absurd rfl (lt3 _ _ (F₃.keep _ _ e))
      obtain ⟨oCC, _, _, hCC, _⟩ := id hn₃
      have W2 := Walks.strAscii (prog := prog) (w := w) hh I2 lit t
      have hst2 : (h₃.push { cls := .type "str_ascii_iterator", data := .fields #[.str lit t, .int 0 0] }).IsStrIter I2 "str_ascii_iterator" lit t 0 := ⟨_, hI2 ▸ Heap.get?_push_size _ rfl, rfl, rfl⟩
      have Lne : L ≠ I2 := by
        obtain ⟨oL, _, _, hL, _⟩ := F₃.ns
        exact lt3 _ _ hL
      have N₄ : News h₀ L (h₃.push { cls := .type "str_ascii_iterator", data := .fields #[.str lit t, .int 0 0] }) ((D, lst ys) :: (I, o1) :: news) := fun p hp => by
        rcases List.mem_cons.mp hp with rfl | hp
        · exact ⟨up _ _ (N₃ _ (.head _)).1, (N₃ _ (.head _)).2⟩
        · rcases List.mem_cons.mp hp with rfl | hp
          · exact ⟨up _ _ he1, Ne.symm hIL, hI₀⟩
          · exact ⟨up _ _ (N₃ p (.tail _ hp)).1, (N₃ p (.tail _ hp)).2⟩
      have off2 : ∀ p ∈ (I, o1) :: news, p.1 ≠ I2 ∧ p.1 ≠ C ∧ p.1 ≠ D := fun p hp => by
        rcases List.mem_cons.mp hp with rfl | hp
        · exact ⟨lt3 _ _ he1, hIC, hID⟩
        · exact ⟨lt3 _ _ (N₃ p (.tail _ hp)).1, lt_ne _ (hnl p hp)⟩
      have inner : codeAny (model prog w) A (.compLoop (comp2 elt it1 it2 x z px pz scope pos) 1 (.ref I2) (.ref D) (compEnvC scope cl C env))
          (fun r s' => match r with
            | .ok f => wpAny (model prog w) (A.under (.compLoop (comp2 elt it1 it2 x z px pz scope pos) 0 (.ref I) (.ref D) (compEnvC scope cl C env))) (again (.compLoop (comp2 elt it1 it2 x z px pz scope pos) 0 (.ref I) (.ref D) (compEnvC scope cl C env)))
                (fun fin s' => match fin with | .done f => RR (.ref D) C (.ok f) s' | .again c' => c' = (.compLoop (comp2 elt it1 it2 x z px pz scope pos) 0 (.ref I) (.ref D) (compEnvC scope cl C env)) ∧ ∃ m_1, m_1 < its.size + 1 - i ∧ ∃ h' tk i ys m', s' = { s₂ with heap := h', toks := tk } ∧ i ≤ its.size ∧ m_1 = its.size + 1 - i ∧ ys.length = i * lit.cps.size ∧ h'.IsListIter I ax i ∧ Fr h₀ L h' m ∧ h'.Ns C m' ∧ News h₀ L h' ((D, lst ys) :: news) ∧ ∀ y ∈ ys, FF y)
                (notedBy (model prog w) (A.under (.compLoop (comp2 elt it1 it2 x z px pz scope pos) 0 (.ref I) (.ref D) (compEnvC scope cl C env))) (compEnvC scope cl C env) fun e s' => RR (.ref D) C (.error e) s') s'
            | .error e => cameBackBy (model prog w) A (compEnvC scope cl C env) (notedBy (model prog w) A (compEnvC scope cl C env) fun e s' => RR (.ref D) C (.error e) s') e s')
          { s₂ with heap := h₃.push { cls := .type "str_ascii_iterator", data := .fields #[.str lit t, .int 0 0] }, toks := tk₃ } := by
        refine inner_loop (FF := FF) (v := v) (tot := its.size * lit.cps.size) W2 (fun i h st => by obtain ⟨o, e, _⟩ := st; exact ⟨o, e⟩) (fun i h h' o st e1 e2 => by obtain ⟨o', e', r⟩ := st; rw [e1] at e'; cases e'; exact ⟨o, e2, r⟩)
          hz hkind hxz (Ne.symm (lt3 _ _ hCC)) (Ne.symm (lt3 _ _ (N₃ _ (.head _)).1)) (Ne.symm hDC) Lne hCL hDL new0 hC₀ hD₀ off2 ?_ hst2 (F₃.keeps up) (hn₃.at' fun o e => up _ _ e) (by simp) N₄ hF' ?_ hsz ?_
        · intro u m₂ oI oC ys' h4 tk4 E' hu hC hv hu' F4 N4
          exact hel v u m₂ I2 oI C oC D ys' I o1 h4 tk4 E' ⟨i, hPv⟩ hu hC hv hu' F4 N4
        · rw [hyl]
          calc i * lit.cps.size + lit.cps.size = (i + 1) * lit.cps.size := by rw [Nat.add_mul, Nat.one_mul]
            _ ≤ its.size * lit.cps.size := Nat.mul_le_mul_right _ hlt
        · intro h5 tk5 ys5 m5 F5 hn5 N5 hF5 hyl5
          refine wpAny_pure ⟨rfl, its.size + 1 - (i + 1), by omega, h5, tk5, i + 1, ys5, m5, rfl, hlt, rfl, by rw [hyl5, hyl, Nat.add_mul, Nat.one_mul], hit₃.at fun o e => ?_, F5, hn5, fun p hp => ?_, hF5⟩
          · rw [he1] at e; cases e
            exact (N5 (I, o1) (.tail _ (.head _))).1
          · rcases List.mem_cons.mp hp with rfl | hp
            · exact N5 _ (.head _)
            · exact N5 p (.tail _ (.tail _ hp))
      refine wpAny_bind (wpAny_runOwn (start_in inner (W2.self 0 _ _ _ hst2 inner)))
    · obtain rfl : i = its.size := Nat.le_antisymm hi (Nat.not_lt.mp hlt)
      refine W.done _ _ _ ⟨hit', listAt _ Nn⟩ fun h₂ tk₂ hk₂ => ?_
      exact wpAny_pure (hRR D C h₂ tk₂ _ ys (fr_but F' hk₂ hIL hI₀) (news_but N' hk₂ offD) (hn'.at' fun o e => hk₂ _ o (by simpa using Ne.symm hIC) e) hC₀ hCL (Ne.symm hDC) (fun p hp => ⟨(lt_ne _ (hnl p hp)).1, hnl p hp⟩) hF' hyl)
  exact codeAny_compStart_list (loop _ rfl) (W.self 0 _ _ _ ⟨hI.at fun o e => old _ _ e, listAt _ fun p hp => N₁ p (.tail _ hp)⟩ (loop _ rfl))
end
end Mine
end
theorem Mine.rs_L5 : True := by (w_top off; k_with_none; trivial)

section
open PySem PySem.W PyProof.Rows PySem.Calls PySem.Spec
set_option Elab.async false
set_option maxRecDepth 100000
set_option linter.unusedVariables false
namespace Mine
open LCg
section
variable {prog : Program} {w : World} {A : Around} {E : Value → Shared → Prop} {s : Shared} {h₀ : Heap} {L : Addr} {m : PySem.Str → Option Value} {env : Env}
  {elt it1 it2 : Expr} {x z : PySem.Str} {px pz pos : Pos} {scope : Scope} {cl : List (PySem.Str × Addr)}
/-- the outer source of a comprehension with two clauses, the inner one a written text -/
def Src2 (prog : Program) (w : World) (A : Around) (h₀ : Heap) (L : Addr) (m : PySem.Str → Option Value) (env : Env) (elt : Expr) (x z : PySem.Str) (scope : Scope) (cl : List (PySem.Str × Addr)) (lit : PySem.Str) (FF : Value → Prop) (Q : Value → Shared → Prop) (xv : Value) (s₁ : Shared) : Prop :=
  ∃ ax its kk news, xv = .ref ax ∧ A.handled = none ∧ Fr h₀ L s₁.heap m ∧ News h₀ L s₁.heap news ∧ (ax, lobj its kk) ∈ news ∧ its.size * lit.cps.size ≤ sizeLine ∧
    (∀ v u m₂ I2 o2 C oC D ys I1 o1 h tk (E' : Value → Shared → Prop), (∃ i : Nat, its[i]? = some v) → (∃ j, SignAt lit j u) → NsObj oC m₂ → m₂ x = some v → m₂ z = some u → Fr h₀ L h m → News h₀ L h ((I2, o2) :: (C, oC) :: (D, lst ys) :: (I1, o1) :: news) →
      wpAny (model prog w) A (eval elt (compEnvC scope cl C env)) (fun y s' => ∃ h' tk', s' = { s₁ with heap := h', toks := tk' } ∧ Fr h₀ L h' m ∧ News h₀ L h' ((I2, o2) :: (C, oC) :: (D, lst ys) :: (I1, o1) :: news) ∧ FF y) E' { s₁ with heap := h, toks := tk }) ∧
    (∀ D h tk ys, Fr h₀ L h m → News h₀ L h ((D, lst ys) :: news) → (∀ p ∈ news, p.1 < D) → (∀ y ∈ ys, FF y) → ys.length = its.size * lit.cps.size → Q (.ref D) { s₁ with heap := h, toks := tk })
theorem ListComp_2 {lit : PySem.Str} {FF : Value → Prop} {Q : Value → Shared → Prop} (F₀ : Fr h₀ L s.heap m) (hclos : closureFor scope env = pure cl) (hcell : ∀ y ∈ scope.names, y.2 ≠ .cell) (hkind : scope.kind = .function)
    (hnames : ∀ y ∈ scope.names, y.2 = .local → scope.names.lookup y.1 = some .local) (hx : scope.names.lookup x = some .local) (hz : scope.names.lookup z = some .local) (hxz : x ≠ z) (ha : lit.cps.all (· < 128) = true)
    (hs2 : ∀ C v, foldedSetIterable it2 (compEnvC scope cl C env) v = pure v)
    (hit : ∀ C (E : Value → Shared → Prop) (s : Shared) (Q : Value → Shared → Prop), (∀ t k, Q (.str lit t) { s with toks := k }) → wpAny (model prog w) A (eval it2 (compEnvC scope cl C env)) Q E s)
    (h : wpAny (model prog w) A (eval it1 env) (Src2 prog w A h₀ L m env elt x z scope cl lit FF Q) E s) (hs : ∀ x, foldedSetIterable it1 env x = pure x) :
    wpAny (model prog w) A (eval (comp2 elt it1 it2 x z px pz scope pos) env) Q E s := by
  rw [eval_ListComp]
  refine wpAny_comprehension_free (use := none) rfl hs hclos hkind hnames (wpAny_mono h (fun xv s₁ h₁ => ?_) fun _ _ e => e)
  obtain ⟨ax, its, kk, news, rfl, hh, F, N, hm, hsz, hel, fin⟩ := h₁
  have hl : s₁.heap.IsList ax its := ⟨_, (N _ hm).1, rfl, _, rfl⟩
  refine wpAny_pyIter_list hl ?_
  have up : ∀ b o, s₁.heap.get? b = some o → (s₁.heap.push { cls := .type "list_iterator", data := .fields #[.ref ax, .int 0 0] }).get? b = some o := fun b o e => Heap.get?_push_of_some _ e
  refine block_2 (FF := FF) (lit := lit) hh hcell hkind hx hz hxz ⟨_, Heap.get?_push_size _ rfl, rfl, rfl⟩ (F.keeps up) (N.grown up) hm (Nat.ne_of_lt F.ns.lt) (next_is_new F) (fun p hp => Nat.ne_of_lt (Heap.lt_size (N p hp).1)) hsz ha hs2 hit ?_ ?_
  · intro v u m₂ I2 o2 C oC D ys I1 o1 h tk E' a b c d e f g
    exact hel v u m₂ I2 o2 C oC D ys I1 o1 h tk E' a b c d e f g
  · intro D C h tk m' ys F' N' hn hC₀ hCL hCD off hF hyl
    refine ⟨m', hn, fun h'' hs'' => fin D h'' tk ys (F'.change hs'' hCL hC₀) (fun p hp => ?_) (fun p hp => (off p hp).2) hF hyl⟩
    refine ⟨hs''.extBut _ _ ?_ (N' p hp).1, (N' p hp).2⟩
    rcases List.mem_cons.mp hp with rfl | hp
    · exact Ne.symm hCD
    · exact (off p hp).1
end
end Mine
namespace Mine
open LCg
section
variable {prog : Program} {w : World} {A : Around} {E : Value → Shared → Prop} {s : Shared} {h₀ : Heap} {L a b : Addr} {m : PySem.Str → Option Value} {news : List (Addr × Obj)} {Q : Value → Shared → Prop}
theorem r_add1 {y0 : Value} {ys : List Value} {n : Nat} (F : Fr h₀ L s.heap m) (N : News h₀ L s.heap news) (ha : (a, listOf [y0].toArray n) ∈ news) (hb : (b, lst ys) ∈ news) (hl : ys.length ≤ 1000)
    (h : ∀ D h', Fr h₀ L h' m → News h₀ L h' ((D, listOf (y0 :: ys).toArray 0) :: news) → (∀ p ∈ news, p.1 < D) → Q (.ref D) { s with heap := h' }) : wpAny (model prog w) A (binaryOp .Add (.ref a) (.ref b)) Q E s := by
  refine kmk_add_lit (its := [y0].toArray) (its2 := ys.toArray) F N ⟨_, (N _ ha).1, rfl, _, rfl⟩ ⟨_, (N _ hb).1, rfl, _, rfl⟩ (zs := y0 :: ys) (by simp) h ?_
  simp only [List.length_cons, List.length_nil]
  rw [sizeLine_eq]
  omega
end
end Mine
namespace Mine
section
variable {prog : Program} {w : World} {A : Around} {E : Value → Shared → Prop} {s : Shared} {Q : Value → Shared → Prop} {value slice : Expr} {h₀ : Heap} {L : Addr} {m : PySem.Str → Option Value} {news : List (Addr × Obj)}
theorem r_sliceNS {x y : PySem.Str} {t : Tok} {j : Int} {uj : Tok} (hF : Fr h₀ L s.heap m) (hN : News h₀ L s.heap news) (e : Txt.slice x none (some j) = y) (hsz : x.length ≤ sizeLine) (h : ∀ h' t' k, Fr h₀ L h' m → News h₀ L h' news → Q (.str y t') { s with heap := h', toks := k })
    (hs : subscripted slice false (.str x t) (.ref s.heap.objs.size) = operate [.ref s.heap.objs.size, .str x t] (getItem (.str x t) (.ref s.heap.objs.size)) := by with_unfolding_all rfl)
    (ht : ∀ r, letTemporaryGo value (.str x t) r = pure () := by intro _; with_unfolding_all rfl) :
    wpAny (model prog w) A (subscriptTail value slice (.str x t) (.ref s.heap.objs.size)) Q E { s with heap := s.heap.push { cls := .type "slice", data := .fields #[.none, .int j uj, .none] } } := by
  subst e
  exact slice_strN_ns hF hN h hs ht hsz
theorem r_sliceSN {x y : PySem.Str} {t : Tok} {i : Int} {ui : Tok} (hF : Fr h₀ L s.heap m) (hN : News h₀ L s.heap news) (e : Txt.slice x (some i) none = y) (hsz : x.length ≤ sizeLine) (h : ∀ h' t' k, Fr h₀ L h' m → News h₀ L h' news → Q (.str y t') { s with heap := h', toks := k })
    (hs : subscripted slice false (.str x t) (.ref s.heap.objs.size) = operate [.ref s.heap.objs.size, .str x t] (getItem (.str x t) (.ref s.heap.objs.size)) := by with_unfolding_all rfl)
    (ht : ∀ r, letTemporaryGo value (.str x t) r = pure () := by intro _; with_unfolding_all rfl) :
    wpAny (model prog w) A (subscriptTail value slice (.str x t) (.ref s.heap.objs.size)) Q E { s with heap := s.heap.push { cls := .type "slice", data := .fields #[.int i ui, .none, .none] } } := by
  subst e
  exact slice_strN_sn hF hN h hs ht hsz
theorem r_catL {l l' : List Nat} {t u : Tok} (hl : l.length + l'.length ≤ 1000) (h : ∀ t' k, Q (.str ⟨(l ++ l').toArray⟩ t') { s with toks := k }) : wpAny (model prog w) A (binaryOp .Add (.str ⟨l.toArray⟩ t) (.str ⟨l'.toArray⟩ u)) Q E s := by
  have e : (⟨l.toArray⟩ : PySem.Str) ++ (⟨l'.toArray⟩ : PySem.Str) = ⟨(l ++ l').toArray⟩ := by
    show PySem.Str.mk (l.toArray ++ l'.toArray) = _
    simp
  refine PyProof.Rows.add_str (fun t' tk => by rw [e]; exact h t' tk) ?_
  show l.toArray.size + l'.toArray.size ≤ sizeLine
  rw [sizeLine_eq]
  simp only [List.size_toArray]
  omega
end
section
variable {s0 s1 s2 s3 s4 s5 s6 s7 : Nat}
theorem slN0 : Txt.slice ⟨[s0, s1, s2, s3, s4, s5, s6, s7].toArray⟩ none (some 0) = ⟨([] : List Nat).toArray⟩ := by kernel_rfl
theorem slN1 : Txt.slice ⟨[s0, s1, s2, s3, s4, s5, s6, s7].toArray⟩ none (some 1) = ⟨[s0].toArray⟩ := by kernel_rfl
theorem slN3 : Txt.slice ⟨[s0, s1, s2, s3, s4, s5, s6, s7].toArray⟩ none (some 3) = ⟨[s0, s1, s2].toArray⟩ := by kernel_rfl
theorem slN7 : Txt.slice ⟨[s0, s1, s2, s3, s4, s5, s6, s7].toArray⟩ none (some 7) = ⟨[s0, s1, s2, s3, s4, s5, s6].toArray⟩ := by kernel_rfl
theorem slS1 : Txt.slice ⟨[s0, s1, s2, s3, s4, s5, s6, s7].toArray⟩ (some (0 + 1)) none = ⟨[s1, s2, s3, s4, s5, s6, s7].toArray⟩ := by kernel_rfl
theorem slS2 : Txt.slice ⟨[s0, s1, s2, s3, s4, s5, s6, s7].toArray⟩ (some (1 + 1)) none = ⟨[s2, s3, s4, s5, s6, s7].toArray⟩ := by kernel_rfl
theorem slS4 : Txt.slice ⟨[s0, s1, s2, s3, s4, s5, s6, s7].toArray⟩ (some (3 + 1)) none = ⟨[s4, s5, s6, s7].toArray⟩ := by kernel_rfl
end
theorem drop234 {h₀ h : Heap} {L : Addr} {x a b c : Addr × Obj} {r : List (Addr × Obj)} (N : News h₀ L h (x :: a :: b :: c :: r)) : News h₀ L h (x :: r) := fun q hq => N q (by
  rcases List.mem_cons.mp hq with rfl | hq
  · exact .head _
  · exact .tail _ (.tail _ (.tail _ (.tail _ hq))))
end Mine
end
theorem Mine.rs_L6 : True := by (w_top off; k_with_none; trivial)

section
open PySem PySem.W PyProof.Rows
set_option Elab.async false
set_option maxRecDepth 100000
set_option linter.unusedVariables false
namespace Mine
theorem kwZF_1 : True := by
  k_with_none
  (k_with "storeName" => (k_here; (try dsimp only); k_dflt (refine' storeX_P ?F ?N ?_ ?a ?b; (case F => k_asm); (case N => k_asm); (case a => rfl); (case b => rfl); k_whole); intro m' h' tk' F' N'; (try k_sweep)))
  (k_with "storeName" => (k_here; (try dsimp only); (with_reducible show wpAny _ _ (storeName _ _ (Value.int _ (HAdd.hAdd _ _))) _ _ _); k_dflt (refine' storeX_I ?F ?N ?_ ?a ?b; (case F => k_asm); (case N => k_asm); (case a => rfl); (case b => rfl); k_whole); intro t' m' h' tk' F' N'; (try k_sweep)))
  (k_with "storeName" => (k_here; (try dsimp only); (with_reducible show wpAny _ _ (storeName _ _ (Value.str _ (HAdd.hAdd _ _))) _ _ _); k_dflt (refine' storeX_S ?F ?N ?_ ?a ?b; (case F => k_asm); (case N => k_asm); (case a => rfl); (case b => rfl); k_whole); intro t' m' h' tk' F' N'; (try k_sweep)))
  (k_with "subscriptTail Name Slice str ref" => (k_here; (with_reducible show wpAny _ _ (subscriptTail _ (Expr.Slice none (some _) none _) _ _) _ _ _); k_dflt (refine' r_sliceNS (s := ⟨_, _, _, _, _⟩) ?F ?N ?e ?z ?_ ?a ?b; (case F => k_asm); (case N => k_asm); (case e => first | (with_reducible exact slN0) | (with_reducible exact slN1) | (with_reducible exact slN3) | (with_reducible exact slN7)); (case a => with_unfolding_all rfl); (case b => (intro _; with_unfolding_all rfl)); (case z => exact Nat.le_of_ble_eq_true rfl); k_whole); intro h' t' k' F' N'))
  (k_with "subscriptTail Name Slice str ref" => (k_here; (with_reducible show wpAny _ _ (subscriptTail _ (Expr.Slice (some _) none none _) _ _) _ _ _); k_dflt (refine' r_sliceSN (s := ⟨_, _, _, _, _⟩) ?F ?N ?e ?z ?_ ?a ?b; (case F => k_asm); (case N => k_asm); (case e => first | (with_reducible exact slS1) | (with_reducible exact slS2) | (with_reducible exact slS4)); (case a => with_unfolding_all rfl); (case b => (intro _; with_unfolding_all rfl)); (case z => exact Nat.le_of_ble_eq_true rfl); k_whole); intro h' t' k' F' N'))
  (k_with "binaryOp Add str str" => (k_here; k_dflt (refine' r_catL ?z ?_; (case z => exact Nat.le_of_ble_eq_true rfl); k_whole); intro _ _))
  (k_with "binaryOp Add ref ref" => (k_here; k_dflt (refine' r_add1 ?F ?N ?a ?b ?l ?_; (case F => k_asm); (case N => k_asm); (case a => k_mem); (case b => k_mem); (case l => omega); k_whole); intro D' h' F' N' l1; (try k_lt l1)))
  trivial
set_option maxHeartbeats 4000000 in
theorem S12 (w : World) (p : Program) (loose : List PySem.Str) (mean : ExcName → Option Value) (mg mb : PySem.Str → Option Value) (cs : Scope) (hcs : cs = lawScope) (s0 s1 s2 s3 s4 s5 s6 s7 : Nat) (tS : Tok) (Bad : PySem.Str → Prop) :
    ∀ (dp un : Nat) (gd : Option (List Code)) (fa : Addr) (cd : Value) (A₀ : Around) (h₀ : Heap) (L : Addr) (m₁ : PySem.Str → Option Value) (s : Shared) (Q : Flow → Shared → Prop) (E : Value → Shared → Prop) (ps : Array Value) (c : Addr) (oc oN oO oS oH : Obj) (Dl : Addr) (oD : Obj) (I : Addr) (oI : Obj), Below A₀ h₀ [] h₀ → (hd.heap_39 w.params).In h₀ → Top p loose mean mg mb h₀ → FzAt w h₀ → dp + 20 < recursionLimit → un + 160 < cLine → Wrm ps c oc → LawAt c L Dl I → Fr h₀ L s.heap m₁ → News h₀ L s.heap [(64, tabObj ps), (c, oc), (L + 1, oN), (L + 1 + 1, oO), (L + 1 + 1 + 1, oS), (L + 1 + 1 + 1 + 1, oH), (Dl, oD), (I, oI)] → oS.data = .cell (some (.str ⟨[s0, s1, s2, s3, s4, s5, s6, s7].toArray⟩ tS)) → Bad ⟨[s0, s1, s2, s3, s4, s5, s6].toArray⟩ → (∀ c, c ∈ [103, 95, 43, 45, 32, 120] → Bad ⟨[c, s1, s2, s3, s4, s5, s6, s7].toArray⟩ ∧ Bad ⟨[s0, c, s2, s3, s4, s5, s6, s7].toArray⟩ ∧ Bad ⟨[s0, s1, s2, c, s4, s5, s6, s7].toArray⟩) →
    (∀ h' tk' Ds ys, Fr h₀ L h' (fun y => if y = PySem.Str.ofString "spoilt" then some (.ref Ds) else m₁ y) → News h₀ L h' ((Ds, listOf (List.toArray ys) 0) :: [(64, tabObj ps), (c, oc), (L + 1, oN), (L + 1 + 1, oO), (L + 1 + 1 + 1, oS), (L + 1 + 1 + 1 + 1, oH), (Dl, oD), (I, oI)]) → @LT.lt Nat _ 64 Ds → @LT.lt Nat _ c Ds → ys.length = 19 → (∀ y ∈ ys, (fun y => ∃ xs t, y = Value.str xs t ∧ Bad xs) y) → Q .next { s with heap := h', toks := tk' }) →
    wpAny (model PySem.Challenge.rw_qh0008_01.row.prog w) (ktrTop dp un gd (PySem.Str.ofString "law") cs L fa cd (cellsFrom (L + 1) cs.names []) []) (exec (lawSt 11) (envX (PySem.Str.ofString "law") cs L fa cd (cellsFrom (L + 1) cs.names []))) Q E s := by
  conv at hcs => rhs; whnf
  subst hcs
  k_fill
  intro dp un gd fa cd A₀ h₀ L m₁ s Q E ps c oc oN oO oS oH Dl oD I oI B X T Z hd9 hu9 W lw F N dS hb0 hb ret
  have lw9 := lw
  obtain ⟨l0, l1, l2, l3, l4, l5, l6, l7, l8⟩ := lw
  conv => enter [3, 1]; whnf
  k_steps
  k_dflt (refine' ListComp_2 (FF := fun y => ∃ xs t, y = Value.str xs t ∧ Bad xs) (lit := PySem.Str.ofString "g_+- x") ?F0 ?cl ?cc ?ck ?cn ?cx ?cz ?xz ?ha ?s2 ?it ?h ?hs; (case F0 => k_asm); (case cl => with_unfolding_all rfl); (case cc => decide); (case ck => rfl); (case cn => decide); (case cx => rfl); (case cz => rfl); (case xz => decide); (case ha => decide +kernel); (case s2 => (intro _ _; rfl)); (case it => (intro C E s Q h; exact wpAny_Constant_str (h _ _))); (case hs => (intro _; rfl)))
  k_steps
  k_dflt (refine' ⟨_, _, _, _, rfl, ?hh, ?F, ?N, ?m, ?z, ?hel, ?fin⟩; (case hh => with_unfolding_all rfl); (case F => k_asm); (case N => k_asm); (case m => k_mem); (case z => exact Nat.le_of_ble_eq_true rfl))
  case hel =>
    intro v u m₂ I2 o2 C oC D ys I1 o1 h tk E' hv hu hC hx hz F' N'
    obtain ⟨j, c9, tu, hc, rfl⟩ := hu
    have hc' : c9 ∈ [103, 95, 43, 45, 32, 120] := by
      have h1 := Array.mem_of_getElem? hc
      have h2 : (PySem.Str.ofString "g_+- x").cps = #[103, 95, 43, 45, 32, 120] := by decide +kernel
      rw [h2] at h1
      simpa using h1
    obtain ⟨i, hi⟩ := hv
    have hv3 : ∃ t k, v = .int k t ∧ (k = 0 ∨ k = 1 ∨ k = 3) := by
      match i, hi with
      | 0, hi => cases hi; exact ⟨_, 0, rfl, .inl rfl⟩
      | 1, hi => cases hi; exact ⟨_, 1, rfl, .inr (.inl rfl)⟩
      | 2, hi => cases hi; exact ⟨_, 3, rfl, .inr (.inr rfl)⟩
    obtain ⟨t9, k9, rfl, hk⟩ := hv3
    clear hi
    rcases hk with rfl | rfl | rfl
    all_goals k_steps
    all_goals (try rfl)
    all_goals (try k_asm)
    all_goals (first | exact (hb _ hc').1 | exact (hb _ hc').2.1 | exact (hb _ hc').2.2)
  case fin =>
    intro D h tk ys F' N' lD hF hyl
    have hyl' : ys.length = 18 := hyl
    k_steps
    all_goals (refine' ret _ _ _ _ ?e1 ?e2 ?e3 ?e4 ?e5 ?e6; (case e1 => k_asm); (case e2 => (refine' drop234 ?n4; (case n4 => assumption))); (case e3 => omega); (case e4 => omega); (case e5 => (simp only [List.length_cons]; omega)); (case e6 => exact List.forall_mem_cons.mpr ⟨⟨_, _, rfl, hb0⟩, hF⟩))


end Mine
end
theorem Mine.rs_ZF : True := by (w_top off; k_with_none; trivial)

section
open PySem PySem.W PyProof.Rows PySem.Calls PySem.Spec
set_option Elab.async false
set_option maxRecDepth 100000
set_option linter.unusedVariables false
namespace Mine
open LCg
section
variable {prog : Program} {w : World} {A : Around} {s : Shared} {h₀ : Heap} {L : Addr} {m : PySem.Str → Option Value} {env : Env} {ct elt : Expr} {x : PySem.Str} {scope : Scope} {cl : List (PySem.Str × Addr)} {S : List (Addr × Obj) → Prop} {P : Nat → Value → Prop} {Fin : List Value → List (Addr × Obj) → Prop}
/-- a comprehension whose test never holds -/
theorem restT_all (T : List (Addr × Obj) → Prop)
    (hstep : ∀ (i : Nat) (R : List (Addr × Obj) → Prop) news, T news → (∀ news', T news' → R news') → ∀ v I oI C oC D m₂ h tk (E' : Value → Shared → Prop), P i v → NsObj oC m₂ → m₂ x = some v → Fr h₀ L h m → News h₀ L h ((I, oI) :: (C, oC) :: (D, lst []) :: news) → Off3 I C D news →
      wpAny (model prog w) A (isTrue ct (compEnvC scope cl C env) (eval ct (compEnvC scope cl C env))) (fun ok s' => if ok = true then False else CompEnd h₀ L m { s with heap := h, toks := tk } I oI C oC D (lst []) S (fun _ news' => R news') Value.none s') E' { s with heap := h, toks := tk })
    (fin : ∀ news, T news → Fin [] news) : ∀ (k i : Nat) news, T news → LCt.CompRestT prog w A h₀ L m env ct elt x scope cl s S P Fin k i [] news
  | 0, _, news, ht => fin news ht
  | k + 1, i, news, ht => by
    refine LCt.CompRestT.succ fun v I oI C oC D m₂ h tk E' a b c d e f _ => ?_
    refine wpAny_mono (hstep i (fun news' => LCt.CompRestT prog w A h₀ L m env ct elt x scope cl s S P Fin k (i + 1) [] news') news ht (fun news' h' => restT_all T hstep fin k (i + 1) news' h') v I oI C oC D m₂ h tk E' a b c d e f) (fun ok s' q => ?_) fun _ _ e => e
    cases ok with
    | true => exact (by simpa using q : False).elim
    | false => simpa using q
end
end Mine
end
theorem Mine.rs_L7 : True := by (w_top off; k_with_none; trivial)

section
open PySem PySem.W PyProof.Rows
set_option Elab.async false
set_option maxRecDepth 100000
set_option linter.unusedVariables false
namespace Mine
section
variable {prog : Program} {w : World} {A : Around} {E : Value → Shared → Prop} {s : Shared} {Q : Value → Shared → Prop}
theorem r_catSp2 {s0 s1 s2 s3 s4 s5 s6 s7 : Nat} {t u : Tok} (h : ∀ t' k, Q (.str ⟨[s0, s1, s2, s3, s4, s5, s6, s7, 32].toArray⟩ t') { s with toks := k }) :
    wpAny (model prog w) A (binaryOp .Add (.str ⟨[s0, s1, s2, s3, s4, s5, s6, s7].toArray⟩ t) (.str (PySem.Str.ofString " ") u)) Q E s := by
  have e : (⟨[s0, s1, s2, s3, s4, s5, s6, s7].toArray⟩ : PySem.Str) ++ PySem.Str.ofString " " = ⟨[s0, s1, s2, s3, s4, s5, s6, s7, 32].toArray⟩ := rfl
  exact PyProof.Rows.add_str (fun t' tk => by rw [e]; exact h t' tk) (by show 8 + 1 ≤ sizeLine; rw [sizeLine_eq]; decide)
theorem ne_strSame2 {x : PySem.Str} {t u : Tok} (h : Q (.bool false) s) : wpAny (model prog w) A (compareOp .NotEq (.str x t) (.str x u)) Q E s := PyProof.Rows.ne_str (by simpa using h)
end
theorem kwZG_1 : True := by
  k_with_none
  (k_with "storeName" => (k_here; (try dsimp only); k_dflt (refine' storeX_P ?F ?N ?_ ?a ?b; (case F => k_asm); (case N => k_asm); (case a => rfl); (case b => rfl); k_whole); intro m' h' tk' F' N'; (try k_sweep)))
  (k_with "storeName" => (k_here; (try dsimp only); (with_reducible show wpAny _ _ (storeName _ _ (Value.int _ (HAdd.hAdd _ _))) _ _ _); k_dflt (refine' storeX_I ?F ?N ?_ ?a ?b; (case F => k_asm); (case N => k_asm); (case a => rfl); (case b => rfl); k_whole); intro t' m' h' tk' F' N'; (try k_sweep)))
  (k_with "storeName" => (k_here; (try dsimp only); (with_reducible show wpAny _ _ (storeName _ _ (Value.str _ (HAdd.hAdd _ _))) _ _ _); k_dflt (refine' storeX_S ?F ?N ?_ ?a ?b; (case F => k_asm); (case N => k_asm); (case a => rfl); (case b => rfl); k_whole); intro t' m' h' tk' F' N'; (try k_sweep)))
  (k_with "binaryOp Add str str" => (k_here; (with_reducible refine r_catSp2 ?_); intro _ _))
  (k_with "compareOp NotEq str str" => (k_here; (with_reducible refine ne_strSame2 ?_)))
  (k_with "eval ListComp" => (k_here; k_dflt (refine' LCt.ListComp_T ?F ?cl ?cc ?ck ?cn ?cx ?_ ?hs; (case F => k_asm); (case cl => with_unfolding_all rfl); (case cc => decide); (case ck => rfl); (case cn => decide); (case cx => rfl); (case hs => (intro _; rfl)); k_whole)))
  (k_with "call ref" => (k_here; (with_reducible show wpAny _ _ (call (Value.ref 217) _) _ _ _); (with_reducible rename LCg.Off3 _ _ _ _ => off9); k_dflt (refine' told_yesC ?hS ?k1 ?k2 ?k3 ?k4 ?k5 ?P ?O ?kK ?kz ?kd ?ku ?_; (case hS => assumption); (case k1 => k_asm); (case k2 => k_asm); (case k3 => k_asm); (case k4 => k_asm); (case k5 => k_asm); (case P => repeat' (first | exact Pull.here _ | refine' Pull.skip _ ?_)); (case O => assumption); (case kK => first | exact rfl | assumption); (case kz => assumption); (case kd => first | omega | ktr_room); (case ku => first | omega | ktr_units); k_whole); intro e9 t9 u9 h9 tk9 F9 N9 l9 O9; (try dsimp only); (try k_fold)))
  (k_with "call ref" => (k_here; (with_reducible show wpAny _ _ (call (Value.ref 217) _) _ _ _); (with_reducible rename LCg.Off3 _ _ _ _ => off9); k_dflt (refine' told_notC ?hS ?k1 ?k2 ?k3 ?k4 ?k5 ?P ?O ?f3 ?kK ?kz ?kd ?ku ?kW ?_; (case hS => assumption); (case k1 => k_asm); (case k2 => k_asm); (case k3 => k_asm); (case k4 => k_asm); (case k5 => k_asm); (case P => repeat' (first | exact Pull.here _ | refine' Pull.skip _ ?_)); (case O => assumption); (case f3 => assumption); (case kK => first | exact rfl | assumption); (case kz => assumption); (case kd => first | omega | ktr_room); (case ku => first | omega | ktr_units); (case kW => assumption); k_whole); intro u9 h9 tk9 ps9 c9 oc9 F9 N9 W9 O9 O8 f8; (try dsimp only); (try k_fold)))
  (k_with "compareOp NotEq ref ref" => (k_here; (with_reducible rename News _ _ _ _ => N9); k_dflt (refine' ne_like ?ra ?rb ?sa ?sb ?u ?he ?_; (case ra => (repeat' (first | (with_reducible exact Reads.int _ _) | (with_reducible exact Reads.str _ _) | exact ReadsAll.nil | refine' ReadsAll.cons ?_ ?_ | (refine' reads_tuple_at (News.get N9 ?m) ?c ?d ?_; (case m => k_mem); (case c => exact rfl); (case d => exact rfl)) | (refine' reads_list_at (News.get N9 ?m) ?c ?d ?_; (case m => k_mem); (case c => exact rfl); (case d => exact rfl))))); (case rb => (repeat' (first | (with_reducible exact Reads.int _ _) | (with_reducible exact Reads.str _ _) | exact ReadsAll.nil | refine' ReadsAll.cons ?_ ?_ | (refine' reads_tuple_at (News.get N9 ?m) ?c ?d ?_; (case m => k_mem); (case c => exact rfl); (case d => exact rfl)) | (refine' reads_list_at (News.get N9 ?m) ?c ?d ?_; (case m => k_mem); (case c => exact rfl); (case d => exact rfl))))); (case sa => (refine shaped_of ?l ?d; (case d => exact Nat.le_of_ble_eq_true rfl); (case l => (simp only [PyData.canLay0, PyData.canLayAll0, Bool.and_true, Bool.true_and, Bool.and_eq_true, strOkOne, decide_eq_true_eq, u8ok, and_self]; try (repeat' (first | assumption | exact (by decide +kernel) | refine And.intro ?_ ?_)))))); (case sb => (refine shaped_of ?l ?d; (case d => exact Nat.le_of_ble_eq_true rfl); (case l => (simp only [PyData.canLay0, PyData.canLayAll0, Bool.and_true, Bool.true_and, Bool.and_eq_true, strOkOne, decide_eq_true_eq, u8ok, and_self]; try (repeat' (first | assumption | exact (by decide +kernel) | refine And.intro ?_ ?_)))))); (case u => first | (show _ + 64 < cLine; omega) | ktr_units); (case he => first | rfl | (simp [PyData.eqv, PyData.eqvAll]; done)))))
  trivial
set_option maxHeartbeats 4000000 in
theorem S13 (w : World) (p : Program) (loose : List PySem.Str) (mean : ExcName → Option Value) (mg mb : PySem.Str → Option Value) (cs : Scope) (hcs : cs = lawScope) (ys : List Value) (Ds : Addr) :
    ∀ (dp un : Nat) (gd : Option (List Code)) (fa : Addr) (cd : Value) (A₀ : Around) (h₀ : Heap) (L : Addr) (m₁ : PySem.Str → Option Value) (s : Shared) (Q : Flow → Shared → Prop) (E : Value → Shared → Prop) (ps : Array Value) (c : Addr) (oc oN oO oS oH : Obj) (Dl : Addr) (oD : Obj) (I : Addr) (oI : Obj), Below A₀ h₀ [] h₀ → (hd.heap_39 w.params).In h₀ → Top p loose mean mg mb h₀ → FzAt w h₀ → dp + 20 < recursionLimit → un + 160 < cLine → Wrm ps c oc → LawAt c L Dl I → Fr h₀ L s.heap (fun y => if y = PySem.Str.ofString "spoilt" then some (.ref Ds) else m₁ y) → News h₀ L s.heap ((Ds, listOf (List.toArray ys) 0) :: [(64, tabObj ps), (c, oc), (L + 1, oN), (L + 1 + 1, oO), (L + 1 + 1 + 1, oS), (L + 1 + 1 + 1 + 1, oH), (Dl, oD), (I, oI)]) → Off c [(Ds, listOf (List.toArray ys) 0), (L + 1, oN), (L + 1 + 1, oO), (L + 1 + 1 + 1, oS), (L + 1 + 1 + 1 + 1, oH), (Dl, oD), (I, oI)] → ys.length = 19 → (∀ y ∈ ys, ∃ xs t, y = Value.str xs t ∧ ∀ others t1 t2 t3, ClmTE w p loose mean mg mb others 217 12 [.str xs t1, .int 0 t2, .int 8 t3] (PySem.Str.ofString "Invalid hex value (at line 1, column 1)")) →
    (∀ h' tk' ps' c' oc', Fr h₀ L h' (fun y => if y = PySem.Str.ofString "spoilt" then some (.ref Ds) else m₁ y) → News h₀ L h' [(64, tabObj ps'), (c', oc'), (L + 1, oN), (L + 1 + 1, oO), (L + 1 + 1 + 1, oS), (L + 1 + 1 + 1 + 1, oH), (Dl, oD), (I, oI)] → Wrm ps' c' oc' → LawAt c' L Dl I → Q .next { s with heap := h', toks := tk' }) →
    wpAny (model PySem.Challenge.rw_qh0008_01.row.prog w) (ktrTop dp un gd (PySem.Str.ofString "law") cs L fa cd (cellsFrom (L + 1) cs.names []) []) (exec (lawSt 12) (envX (PySem.Str.ofString "law") cs L fa cd (cellsFrom (L + 1) cs.names []))) Q E s := by
  conv at hcs => rhs; whnf
  subst hcs
  k_fill
  intro dp un gd fa cd A₀ h₀ L m₁ s Q E ps c oc oN oO oS oH Dl oD I oI B X T Z hd9 hu9 W lw F N O0 hl hy ret
  have lw9 := lw
  obtain ⟨l0, l1, l2, l3, l4, l5, l6, l7, l8⟩ := lw
  conv => enter [3, 1]; whnf
  k_steps
  have N13 : News h₀ L s.heap ((64, tabObj ps) :: (c, oc) :: [(Ds, listOf (List.toArray ys) 0), (L + 1, oN), (L + 1 + 1, oO), (L + 1 + 1 + 1, oS), (L + 1 + 1 + 1 + 1, oH), (Dl, oD), (I, oI)]) := (Pull.skip _ (Pull.here _)).news N
  refine LCt.CompSrcT.ledger (by with_unfolding_all rfl) F N13 (.tail _ (.tail _ (.head _))) (by rw [List.size_toArray, hl]; exact Nat.le_of_ble_eq_true rfl) fun g => restT_all (fun news => ∃ ps' c' oc', news = (64, tabObj ps') :: (c', oc') :: [(Ds, listOf (List.toArray ys) 0), (L + 1, oN), (L + 1 + 1, oO), (L + 1 + 1 + 1, oS), (L + 1 + 1 + 1 + 1, oH), (Dl, oD), (I, oI)] ∧ Wrm ps' c' oc' ∧ Off c' [(Ds, listOf (List.toArray ys) 0), (L + 1, oN), (L + 1 + 1, oO), (L + 1 + 1 + 1, oS), (L + 1 + 1 + 1 + 1, oH), (Dl, oD), (I, oI)]) ?step ?fin _ _ _ ⟨ps, c, oc, rfl, W, O0⟩
  case step =>
    intro i R news ht hR v I' oI' C' oC' D' m₂ h tk E' hv hC hx F' N' off9
    obtain ⟨ps', c', oc', rfl, W', O'⟩ := ht
    have hmem : v ∈ ys := by
      have := List.mem_of_getElem? (l := ys) (i := i) (by simpa using hv)
      exact this
    obtain ⟨xs, t, rfl, hS⟩ := hy v hmem
    clear hy hv
    k_steps
    all_goals ((with_reducible rename News _ _ _ _ => N9); refine compEnd3 (by assumption) N9 (by assumption) (by assumption) (.inr ⟨_, .tail _ (.tail _ (.head _)), rfl, _, rfl⟩) (hR _ ⟨_, _, _, rfl, by assumption, by assumption⟩))
  case fin =>
    intro news ht
    obtain ⟨ps', c', oc', rfl, W', O'⟩ := ht
    unfold LCg.FinE
    intro D' h' tk' F' N' o1'
    k_steps
    all_goals ((with_reducible rename News _ _ _ _ => N9); refine' ret _ _ _ _ _ ?e1 ?e2 ?e3 ?e4; (case e1 => k_asm); (case e2 => (refine' news_cells N9 ?pp ?ss; (case pp => repeat' (first | exact Pull.here _ | refine' Pull.skip _ ?_)); (case ss => exact (fun p hp => (by simp only [List.mem_cons, List.not_mem_nil, or_false] at hp ⊢; rcases hp with hp | hp | hp | hp | hp | hp <;> simp only [hp, true_or, or_true]))))); (case e3 => assumption); (case e4 => first | exact lw9 | (refine' lawAt_of (oN := oN) (oO := oO) (oS := oS) (oH := oH) (oD := oD) (oI := oI) lw9 (off_sub ?oo ?ss); (case oo => assumption); (case ss => exact (fun p hp => (by simp only [List.mem_cons, List.not_mem_nil, or_false] at hp ⊢; rcases hp with hp | hp | hp | hp | hp | hp <;> simp only [hp, true_or, or_true]))))))


end Mine
end
theorem Mine.rs_ZG : True := by (w_top off; k_with_none; trivial)

section
open PySem PySem.W PyProof.Rows PySem.Calls PySem.Spec
set_option Elab.async false
set_option maxRecDepth 100000
set_option linter.unusedVariables false
namespace Mine
theorem nat_and_shift (a b k : Nat) (hb : b < 2 ^ k) : (a * 2 ^ k) &&& b = 0 := by
  apply Nat.eq_of_testBit_eq
  intro i
  rw [Nat.testBit_and, Nat.zero_testBit, Nat.testBit_mul_two_pow]
  by_cases h : k ≤ i
  · rw [Nat.testBit_lt_two_pow (Nat.lt_of_lt_of_le hb (Nat.pow_le_pow_right (by decide) h)), Bool.and_false]
  · simp [h]
theorem or_shift (a b : Int) (k : Nat) (ha : 0 ≤ a) (hb0 : 0 ≤ b) (hb : b < 2 ^ k) : Builtin.bitOr (a * 2 ^ k) b = a * 2 ^ k + b := by
  obtain ⟨n, rfl⟩ := Int.eq_ofNat_of_zero_le ha
  obtain ⟨m, rfl⟩ := Int.eq_ofNat_of_zero_le hb0
  have hm : m < 2 ^ k := by exact_mod_cast hb
  have e : ((n : Int) * 2 ^ k) = ((n * 2 ^ k : Nat) : Int) := by push_cast; rfl
  rw [bitOr_and, e]
  have h0 : Builtin.bitAnd ((n * 2 ^ k : Nat) : Int) (m : Int) = 0 := by
    unfold Builtin.bitAnd
    have h1 : (0 : Int) ≤ ((n * 2 ^ k : Nat) : Int) := Int.natCast_nonneg _
    have h2 : (0 : Int) ≤ (m : Int) := Int.natCast_nonneg _
    simp only [h1, h2, decide_true, ge_iff_le, Bool.and_self, if_true, Int.toNat_natCast]
    exact_mod_cast nat_and_shift n m k hm
  rw [h0]
  omega
theorem p8 : (2 : Int) ^ Int.toNat 8 = 2 ^ (8 : Nat) := rfl
theorem p4 : (2 : Int) ^ Int.toNat 4 = 2 ^ (4 : Nat) := rfl
theorem p2 : (2 : Int) ^ Int.toNat 2 = 2 ^ (2 : Nat) := rfl
theorem p6 : (2 : Int) ^ Int.toNat 6 = 2 ^ (6 : Nat) := rfl
end Mine
end
theorem Mine.rs_M1 : True := by (w_top off; k_with_none; trivial)

section
open PySem PySem.W PyProof.Rows PySem.Calls PySem.Spec
set_option Elab.async false
set_option maxRecDepth 100000
set_option linter.unusedVariables false
namespace Mine
theorem bs_lt (v : Nat) : b64Sign v < 128 := by unfold b64Sign; split <;> (try split) <;> (try split) <;> (try split) <;> omega
theorem bs_ok (v : Nat) : 0 ≤ (b64Sign v : Int) ∧ (b64Sign v : Int) < 256 := by have := bs_lt v; omega
section
variable (w : World) (p : Program) (loose : List PySem.Str) (mean : ExcName → Option Value) (mg mb : PySem.Str → Option Value) (o0 o1 o2 o3 : UInt8)
theorem enc_at : ∀ news t, Clm w p loose mean mg mb news 177 6 [.bytes [o0, o1, o2, o3].toArray t] (fun t => .bytes [(b64Sign (o0.toNat / 4)).toUInt8, (b64Sign (o0.toNat % 4 * 16 + o1.toNat / 16)).toUInt8, (b64Sign (o1.toNat % 16 * 4 + o2.toNat / 64)).toUInt8, (b64Sign (o2.toNat % 64)).toUInt8, (b64Sign (o3.toNat / 4)).toUInt8, (b64Sign (o3.toNat % 4 * 16)).toUInt8, 61, 61].toArray t) := by
  intro news t
  have h0 := o0.toNat_lt; have h1 := o1.toNat_lt; have h2 := o2.toNat_lt; have h3 := o3.toNat_lt
  exact b64enc_spec w p loose mean mg mb news o0 o1 o2 o3 (o0.toNat : Int) ((o0.toNat * 256 + o1.toNat : Nat) : Int) ((o1.toNat * 256 + o2.toNat : Nat) : Int) ((o2.toNat * 256 + o3.toNat : Nat) : Int) ((o3.toNat % 4 : Nat) : Int) (o0.toNat / 4) (o0.toNat % 4 * 16 + o1.toNat / 16) (o1.toNat % 16 * 4 + o2.toNat / 64) (o2.toNat % 64) (o3.toNat / 4) (o3.toNat % 4 * 16) t (by rw [p8, or_shift 0 (o0.toNat : Int) 8 (by omega) (by omega) (by omega), bitAnd_m16]; omega) (by rw [p8, or_shift (o0.toNat : Int) (o1.toNat : Int) 8 (by omega) (by omega) (by omega), bitAnd_m16]; omega) (by rw [p8, or_shift ((o0.toNat * 256 + o1.toNat : Nat) : Int) (o2.toNat : Int) 8 (by omega) (by omega) (by omega), bitAnd_m16]; omega) (by rw [p8, or_shift ((o1.toNat * 256 + o2.toNat : Nat) : Int) (o3.toNat : Int) 8 (by omega) (by omega) (by omega), bitAnd_m16]; omega) (by rw [show ((2 : Int) ^ (0 + 8 - 6 : Int).toNat) = 4 from rfl, Int.fdiv_eq_ediv_of_nonneg _ (by decide), bitAnd_m6]; omega) (by omega) (by rw [show ((2 : Int) ^ (0 + 8 - 6 + 8 - 6 : Int).toNat) = 16 from rfl, Int.fdiv_eq_ediv_of_nonneg _ (by decide), bitAnd_m6]; omega) (by omega) (by rw [show ((2 : Int) ^ (0 + 8 - 6 + 8 - 6 + 8 - 6 : Int).toNat) = 64 from rfl, Int.fdiv_eq_ediv_of_nonneg _ (by decide), bitAnd_m6]; omega) (by omega) (by rw [show ((2 : Int) ^ (0 + 8 - 6 + 8 - 6 + 8 - 6 - 6 : Int).toNat) = 1 from rfl, Int.fdiv_eq_ediv_of_nonneg _ (by decide), bitAnd_m6]; omega) (by omega) (by rw [show ((2 : Int) ^ (0 + 8 - 6 + 8 - 6 + 8 - 6 - 6 + 8 - 6 : Int).toNat) = 4 from rfl, Int.fdiv_eq_ediv_of_nonneg _ (by decide), bitAnd_m6]; omega) (by omega) (by rw [bitAnd_m2]; omega) (by rw [p4]; omega) (by omega) (by omega) (by omega) (by omega) (by omega) (by omega) (bs_ok _) (bs_ok _) (bs_ok _) (bs_ok _) (bs_ok _) (bs_ok _)
theorem bs_val {v : Nat} (h : v < 64) : b64Value ((b64Sign v : Nat) : Int) = (v : Int) := by
  have := (by decide +kernel : ∀ v : Fin 64, b64Value ((b64Sign v.val : Nat) : Int) = (v.val : Int)) ⟨v, h⟩
  exact this
theorem bs_ne {v : Nat} (h : v < 64) : ((b64Sign v : Nat) : Int) ≠ 61 := by
  have := (by decide +kernel : ∀ v : Fin 64, ((b64Sign v.val : Nat) : Int) ≠ 61) ⟨v, h⟩
  exact this
theorem byte_back (o : UInt8) : ((o.toNat : Int)).toNat.toUInt8 = o := by simp
theorem dec_at : ∀ news t, Clm w p loose mean mg mb news 185 6 [.str ⟨[b64Sign (o0.toNat / 4), b64Sign (o0.toNat % 4 * 16 + o1.toNat / 16), b64Sign (o1.toNat % 16 * 4 + o2.toNat / 64), b64Sign (o2.toNat % 64), b64Sign (o3.toNat / 4), b64Sign (o3.toNat % 4 * 16), 61, 61].toArray⟩ t] (fun t => .bytes [o0, o1, o2, o3].toArray t) := by
  intro news t
  have h0 := o0.toNat_lt; have h1 := o1.toNat_lt; have h2 := o2.toNat_lt; have h3 := o3.toNat_lt
  have e : byteArr [(o0.toNat : Int), (o1.toNat : Int), (o2.toNat : Int), (o3.toNat : Int)] = [o0, o1, o2, o3].toArray := by simp [byteArr]
  have hx : ∀ y ∈ [b64Sign (o0.toNat / 4), b64Sign (o0.toNat % 4 * 16 + o1.toNat / 16), b64Sign (o1.toNat % 16 * 4 + o2.toNat / 64), b64Sign (o2.toNat % 64), b64Sign (o3.toNat / 4), b64Sign (o3.toNat % 4 * 16), 61, 61], y < 128 := by
    simp only [List.forall_mem_cons, List.not_mem_nil, false_implies, implies_true, and_true]
    exact ⟨bs_lt _, bs_lt _, bs_lt _, bs_lt _, bs_lt _, bs_lt _, by decide, by decide⟩
  have := b64dec_spec w p loose mean mg mb news (b64Sign (o0.toNat / 4)) (b64Sign (o0.toNat % 4 * 16 + o1.toNat / 16)) (b64Sign (o1.toNat % 16 * 4 + o2.toNat / 64)) (b64Sign (o2.toNat % 64)) (b64Sign (o3.toNat / 4)) (b64Sign (o3.toNat % 4 * 16)) ((b64Sign (o0.toNat / 4) : Nat) : Int) ((b64Sign (o0.toNat % 4 * 16 + o1.toNat / 16) : Nat) : Int) ((b64Sign (o1.toNat % 16 * 4 + o2.toNat / 64) : Nat) : Int) ((b64Sign (o2.toNat % 64) : Nat) : Int) ((b64Sign (o3.toNat / 4) : Nat) : Int) ((b64Sign (o3.toNat % 4 * 16) : Nat) : Int) ((o0.toNat / 4 : Nat) : Int) ((o0.toNat % 4 * 16 + o1.toNat / 16 : Nat) : Int) ((o1.toNat % 16 * 4 + o2.toNat / 64 : Nat) : Int) ((o2.toNat % 64 : Nat) : Int) ((o3.toNat / 4 : Nat) : Int) ((o3.toNat % 4 * 16 : Nat) : Int) ((o1.toNat / 16 : Nat) : Int) ((o2.toNat / 64 : Nat) : Int) 0 (o0.toNat : Int) (o1.toNat : Int) (o2.toNat : Int) (o3.toNat : Int) t hx (by have := bs_lt (o0.toNat / 4); simp; omega) (by have := bs_lt (o0.toNat % 4 * 16 + o1.toNat / 16); simp; omega) (by have := bs_lt (o1.toNat % 16 * 4 + o2.toNat / 64); simp; omega) (by have := bs_lt (o2.toNat % 64); simp; omega) (by have := bs_lt (o3.toNat / 4); simp; omega) (by have := bs_lt (o3.toNat % 4 * 16); simp; omega) (rfl) (rfl) (bs_ne (by omega)) (bs_val (by omega)) (by omega) (bs_ne (by omega)) (bs_val (by omega)) (by omega) (bs_ne (by omega)) (bs_val (by omega)) (by omega) (bs_ne (by omega)) (bs_val (by omega)) (by omega) (bs_ne (by omega)) (bs_val (by omega)) (by omega) (bs_ne (by omega)) (bs_val (by omega)) (by omega) (by rw [p2, show ((2 : Int) ^ (4 : Int).toNat) = 16 from rfl, Int.fdiv_eq_ediv_of_nonneg _ (by decide), or_shift _ _ 2 (by omega) (by omega) (by omega)]; omega) (by rw [bitAnd_m4]; omega) (by rw [p4, show ((2 : Int) ^ (2 : Int).toNat) = 4 from rfl, Int.fdiv_eq_ediv_of_nonneg _ (by decide), or_shift _ _ 4 (by omega) (by omega) (by omega)]; omega) (by rw [bitAnd_m2]; omega) (by rw [p6, or_shift _ _ 6 (by omega) (by omega) (by omega)]; omega) (by rw [p2, show ((2 : Int) ^ (4 : Int).toNat) = 16 from rfl, Int.fdiv_eq_ediv_of_nonneg _ (by decide), or_shift _ _ 2 (by omega) (by omega) (by omega)]; omega) (by rw [bitAnd_m4]; omega) (by omega) (by omega) (by omega) (by omega) (by omega) (by omega) (by omega)
  rw [e] at this
  exact this
end
end Mine
end
theorem Mine.rs_M2 : True := by (w_top off; k_with_none; trivial)

section
open PySem PySem.W PyProof.Rows PySem.Calls PySem.Spec
set_option Elab.async false
set_option maxRecDepth 100000
set_option linter.unusedVariables false
namespace Mine
/-- the figure of a number below sixteen, small or great -/
def sgn (b : Bool) (d : Nat) : Nat := if b = true then lo1 (upFig d) else upFig d
def SgFacts (b : Bool) (d : Nat) : Bool := decide (sgn b d < 128) && decide (sgn b d ≠ 10) && ((decide (48 ≤ (Builtin.Bytes.toUpper (sgn b d).toUInt8).toNat) && decide ((Builtin.Bytes.toUpper (sgn b d).toUInt8).toNat ≤ 57)) || (decide (65 ≤ (Builtin.Bytes.toUpper (sgn b d).toUInt8).toNat) && decide ((Builtin.Bytes.toUpper (sgn b d).toUInt8).toNat ≤ 70))) && decide (hexValue ((Builtin.Bytes.toUpper (sgn b d).toUInt8).toNat : Int) = (d : Int)) && HexSign (sgn b d) && decide (hexDig (sgn b d) = d)
theorem sg_all : ∀ b : Bool, ∀ d : Fin 16, SgFacts b d.val = true := by decide +kernel
theorem sg_at (b : Bool) {d : Nat} (h : d < 16) : SgFacts b d = true := sg_all b ⟨d, h⟩
theorem sg_lt (b : Bool) {d : Nat} (h : d < 16) : sgn b d < 128 := by have := sg_at b h; simp [SgFacts] at this; exact this.1.1.1.1.1
theorem sg_nl (b : Bool) {d : Nat} (h : d < 16) : sgn b d ≠ 10 := by have := sg_at b h; simp [SgFacts] at this; exact this.1.1.1.1.2
theorem sg_great (b : Bool) {d : Nat} (h : d < 16) : GreatHex (Builtin.Bytes.toUpper (sgn b d).toUInt8).toNat := by have := sg_at b h; simp [SgFacts] at this; exact this.1.1.1.2
theorem sg_val (b : Bool) {d : Nat} (h : d < 16) : hexValue ((Builtin.Bytes.toUpper (sgn b d).toUInt8).toNat : Int) = (d : Int) := by have := sg_at b h; simp [SgFacts] at this; exact this.1.1.2
theorem sg_hex (b : Bool) {d : Nat} (h : d < 16) : HexSign (sgn b d) = true := by have := sg_at b h; simp [SgFacts] at this; exact this.1.2
theorem sg_dig (b : Bool) {d : Nat} (h : d < 16) : hexDig (sgn b d) = d := by have := sg_at b h; simp [SgFacts] at this; exact this.2
theorem up_lt {d : Nat} (h : d < 16) : upFig d < 128 := sg_lt false h
theorem hx_up {d : Nat} (h : d < 16) : (Builtin.Bytes.toUpper (Builtin.Bytes.hexDigit d).toUInt8).toNat = upFig d := by
  have := (by decide +kernel : ∀ d : Fin 16, (Builtin.Bytes.toUpper (Builtin.Bytes.hexDigit d.val).toUInt8).toNat = upFig d.val) ⟨d, h⟩
  exact this
section
variable (w : World) (p : Program) (loose : List PySem.Str) (mean : ExcName → Option Value) (mg mb : PySem.Str → Option Value) (o0 o1 o2 o3 : UInt8)
theorem b16d_at (b : Bool) : ∀ news t, Clm w p loose mean mg mb news 200 6 [.str ⟨[sgn b (o0.toNat / 16), sgn b (o0.toNat % 16), sgn b (o1.toNat / 16), sgn b (o1.toNat % 16), sgn b (o2.toNat / 16), sgn b (o2.toNat % 16), sgn b (o3.toNat / 16), sgn b (o3.toNat % 16)].toArray⟩ t, .bool true] (fun t => .bytes [o0, o1, o2, o3].toArray t) := by
  intro news t
  have h0 := o0.toNat_lt; have h1 := o1.toNat_lt; have h2 := o2.toNat_lt; have h3 := o3.toNat_lt
  refine b16dec_spec w p loose mean mg mb news (sgn b (o0.toNat / 16)) (sgn b (o0.toNat % 16)) (sgn b (o1.toNat / 16)) (sgn b (o1.toNat % 16)) (sgn b (o2.toNat / 16)) (sgn b (o2.toNat % 16)) (sgn b (o3.toNat / 16)) (sgn b (o3.toNat % 16)) ((o0.toNat / 16 : Nat) : Int) ((o0.toNat % 16 : Nat) : Int) ((o1.toNat / 16 : Nat) : Int) ((o1.toNat % 16 : Nat) : Int) ((o2.toNat / 16 : Nat) : Int) ((o2.toNat % 16 : Nat) : Int) ((o3.toNat / 16 : Nat) : Int) ((o3.toNat % 16 : Nat) : Int) [o0, o1, o2, o3].toArray t ?_ ?_ (sg_val b (by omega)) (by omega) (sg_val b (by omega)) (by omega) (sg_val b (by omega)) (by omega) (sg_val b (by omega)) (by omega) (sg_val b (by omega)) (by omega) (sg_val b (by omega)) (by omega) (sg_val b (by omega)) (by omega) (sg_val b (by omega)) (by omega) ?_
  · simp only [List.forall_mem_cons, List.not_mem_nil, false_implies, implies_true, and_true]
    refine ⟨?_, ?_, ?_, ?_, ?_, ?_, ?_, ?_⟩ <;> exact sg_lt b (by omega)
  · simp only [List.forall_mem_cons, List.not_mem_nil, false_implies, implies_true, and_true]
    refine ⟨?_, ?_, ?_, ?_, ?_, ?_, ?_, ?_⟩ <;> exact sg_great b (by omega)
  · have e : ∀ o : UInt8, ((o.toNat / 16 : Nat) : Int) * 2 ^ Int.toNat 4 + ((o.toNat % 16 : Nat) : Int) = (o.toNat : Int) := fun o => by rw [p4]; omega
    rw [e, e, e, e]
    simp [byteArr]
end
end Mine
end
theorem Mine.rs_M3 : True := by (w_top off; k_with_none; trivial)

section
open PySem PySem.W PyProof.Rows PySem.Calls PySem.Spec
set_option Elab.async false
set_option maxRecDepth 100000
set_option linter.unusedVariables false
namespace Mine
theorem lenOk {l : List Nat} (h : l.length ≤ 100) : (⟨l.toArray⟩ : PySem.Str).length ≤ sizeLine := by
  show l.toArray.size ≤ sizeLine
  rw [sizeLine_eq, List.size_toArray]
  omega
theorem hv2 {a0 a1 x0 x1 : Nat} (h0 : hexDig a0 = x0) (h1 : hexDig a1 = x1) : hexVal [a0, a1] = ((0) * 16 + x0) * 16 + x1 := by subst h0 h1; rfl
theorem hv4 {a0 a1 a2 a3 x0 x1 x2 x3 : Nat} (h0 : hexDig a0 = x0) (h1 : hexDig a1 = x1) (h2 : hexDig a2 = x2) (h3 : hexDig a3 = x3) : hexVal [a0, a1, a2, a3] = ((((0) * 16 + x0) * 16 + x1) * 16 + x2) * 16 + x3 := by subst h0 h1 h2 h3; rfl
theorem hv8 {a0 a1 a2 a3 a4 a5 a6 a7 x0 x1 x2 x3 x4 x5 x6 x7 : Nat} (h0 : hexDig a0 = x0) (h1 : hexDig a1 = x1) (h2 : hexDig a2 = x2) (h3 : hexDig a3 = x3) (h4 : hexDig a4 = x4) (h5 : hexDig a5 = x5) (h6 : hexDig a6 = x6) (h7 : hexDig a7 = x7) : hexVal [a0, a1, a2, a3, a4, a5, a6, a7] = ((((((((0) * 16 + x0) * 16 + x1) * 16 + x2) * 16 + x3) * 16 + x4) * 16 + x5) * 16 + x6) * 16 + x7 := by subst h0 h1 h2 h3 h4 h5 h6 h7; rfl
section
variable {s0 s1 s2 s3 s4 s5 s6 s7 : Nat}
theorem sl02 : Txt.slice ⟨[s0, s1, s2, s3, s4, s5, s6, s7].toArray⟩ (some 0) (some (0 + 2)) = ⟨[s0, s1].toArray⟩ := by kernel_rfl
theorem sl22 : Txt.slice ⟨[s0, s1, s2, s3, s4, s5, s6, s7].toArray⟩ (some 2) (some (2 + 2)) = ⟨[s2, s3].toArray⟩ := by kernel_rfl
theorem sl42 : Txt.slice ⟨[s0, s1, s2, s3, s4, s5, s6, s7].toArray⟩ (some 4) (some (4 + 2)) = ⟨[s4, s5].toArray⟩ := by kernel_rfl
theorem sl62 : Txt.slice ⟨[s0, s1, s2, s3, s4, s5, s6, s7].toArray⟩ (some 6) (some (6 + 2)) = ⟨[s6, s7].toArray⟩ := by kernel_rfl
theorem sl04 : Txt.slice ⟨[s0, s1, s2, s3, s4, s5, s6, s7].toArray⟩ (some 0) (some (0 + 4)) = ⟨[s0, s1, s2, s3].toArray⟩ := by kernel_rfl
theorem sl44 : Txt.slice ⟨[s0, s1, s2, s3, s4, s5, s6, s7].toArray⟩ (some 4) (some (4 + 4)) = ⟨[s4, s5, s6, s7].toArray⟩ := by kernel_rfl
theorem sl08 : Txt.slice ⟨[s0, s1, s2, s3, s4, s5, s6, s7].toArray⟩ (some 0) (some (0 + 8)) = ⟨[s0, s1, s2, s3, s4, s5, s6, s7].toArray⟩ := by kernel_rfl
theorem sl98 : Txt.slice ⟨[s0, s1, s2, s3, s4, s5, s6, s7, 32].toArray⟩ (some 0) (some (0 + 8)) = ⟨[s0, s1, s2, s3, s4, s5, s6, s7].toArray⟩ := by kernel_rfl
theorem sl78 : Txt.slice ⟨[s0, s1, s2, s3, s4, s5, s6].toArray⟩ (some 0) (some (0 + 8)) = ⟨[s0, s1, s2, s3, s4, s5, s6].toArray⟩ := by kernel_rfl
end
theorem tq (w : World) (p : Program) (loose : List PySem.Str) (mean : ExcName → Option Value) (mg mb : PySem.Str → Option Value) {l sub : List Nat} {q n e : Int} {y y' : Nat} (hpe : q + n = e) (hs : Txt.slice ⟨l.toArray⟩ (some q) (some (q + n)) = ⟨sub.toArray⟩) (hz : l.length ≤ 100) (hn : (sub.length : Int) = n) (hn2 : n < 100) (h7 : ∀ y ∈ sub, y < 128) (hx : sub.all HexSign = true) (hne : sub ≠ []) (hy : hexVal sub = y') (hsc : (y' < 55296 ∨ 57343 < y' ∧ y' < 1114112) ∧ y' = y) :
    ∀ news t1 t2 t3, ClmTQ w p loose mean mg mb news 217 12 [.str ⟨l.toArray⟩ t1, .int q t2, .int n t3] e y := by
  obtain ⟨hsc, rfl⟩ := hsc
  subst hpe
  intro news t1 t2 t3
  refine told_ok w p loose mean mg mb news ⟨l.toArray⟩ q n t1 t2 t3 (q + n) y' fun news t1 t2 t3 => ?_
  refine parse_ok w p loose mean mg mb news l sub q n (q + n) t1 t2 t3 rfl hs (lenOk hz) (y' : Int) y' hn hn2 h7 hx hne (by rw [hy]) (by omega) (by omega) ?_ (by simp)
  simp
  omega
theorem te_ns (w : World) (p : Program) (loose : List PySem.Str) (mean : ExcName → Option Value) (mg mb : PySem.Str → Option Value) {l sub : List Nat} {q n : Int} {y' : Nat} {res : PySem.Str} (hs : Txt.slice ⟨l.toArray⟩ (some q) (some (q + n)) = ⟨sub.toArray⟩) (hz : l.length ≤ 100) (hn : (sub.length : Int) = n) (hn2 : n < 100) (h7 : ∀ y ∈ sub, y < 128) (hx : sub.all HexSign = true) (hne : sub ≠ []) (hy : hexVal sub = y') (hsc : ¬ (y' < 55296 ∨ 57343 < y' ∧ y' < 1114112))
    (hS : ∀ others t1 t2 t3, ClmX w p loose mean mg mb others 69 6 [.str ⟨l.toArray⟩ t1, .int (q + n) t2, .str (PySem.Str.ofString "Escaped character is not a Unicode scalar value") t3] res) :
    ∀ others t1 t2 t3, ClmTE w p loose mean mg mb others 217 12 [.str ⟨l.toArray⟩ t1, .int q t2, .int n t3] res := by
  intro others t1 t2 t3
  refine told_no w p loose mean mg mb others ⟨l.toArray⟩ q n t1 t2 t3 res fun others t1 t2 t3 => ?_
  refine parse_ns w p loose mean mg mb others l sub q n (q + n) t1 t2 t3 rfl hs (lenOk hz) (y' : Int) hn hn2 h7 hx hne (by rw [hy]) ?_ res hS
  simp
  omega
theorem te_bs (w : World) (p : Program) (loose : List PySem.Str) (mean : ExcName → Option Value) (mg mb : PySem.Str → Option Value) {l sub : List Nat} {q n : Int} {res : PySem.Str} (hs : Txt.slice ⟨l.toArray⟩ (some q) (some (q + n)) = ⟨sub.toArray⟩) (hz : l.length ≤ 100) (hn : (sub.length : Int) = n) (hn2 : n < 100) (h7 : ∀ y ∈ sub, y < 128) (hx : sub.all HexSign = false)
    (hS : ∀ others t1 t2 t3, ClmX w p loose mean mg mb others 69 6 [.str ⟨l.toArray⟩ t1, .int q t2, .str (PySem.Str.ofString "Invalid hex value") t3] res) :
    ∀ others t1 t2 t3, ClmTE w p loose mean mg mb others 217 12 [.str ⟨l.toArray⟩ t1, .int q t2, .int n t3] res := by
  intro others t1 t2 t3
  refine told_no w p loose mean mg mb others ⟨l.toArray⟩ q n t1 t2 t3 res fun others t1 t2 t3 => ?_
  exact parse_bs w p loose mean mg mb others l sub q n (q + n) t1 t2 t3 rfl hs (lenOk hz) hn hn2 h7 hx res hS
theorem te_bl (w : World) (p : Program) (loose : List PySem.Str) (mean : ExcName → Option Value) (mg mb : PySem.Str → Option Value) {l sub : List Nat} {q n k : Int} {res : PySem.Str} (hs : Txt.slice ⟨l.toArray⟩ (some q) (some (q + n)) = ⟨sub.toArray⟩) (hz : l.length ≤ 100) (hn : (sub.length : Int) = k) (hn2 : k < 100) (hkn : k ≠ n)
    (hS : ∀ others t1 t2 t3, ClmX w p loose mean mg mb others 69 6 [.str ⟨l.toArray⟩ t1, .int q t2, .str (PySem.Str.ofString "Invalid hex value") t3] res) :
    ∀ others t1 t2 t3, ClmTE w p loose mean mg mb others 217 12 [.str ⟨l.toArray⟩ t1, .int q t2, .int n t3] res := by
  intro others t1 t2 t3
  refine told_no w p loose mean mg mb others ⟨l.toArray⟩ q n t1 t2 t3 res fun others t1 t2 t3 => ?_
  exact parse_bl w p loose mean mg mb others l sub q n (q + n) t1 t2 t3 rfl hs (lenOk hz) k hn hn2 hkn res hS
section
variable (w : World) (p : Program) (loose : List PySem.Str) (mean : ExcName → Option Value) (mg mb : PySem.Str → Option Value) (o0 o1 o2 o3 : UInt8) (b : Bool)
theorem q2_0 : ∀ news t1 t2 t3, ClmTQ w p loose mean mg mb news 217 12 [.str ⟨[sgn b (o0.toNat / 16), sgn b (o0.toNat % 16), sgn b (o1.toNat / 16), sgn b (o1.toNat % 16), sgn b (o2.toNat / 16), sgn b (o2.toNat % 16), sgn b (o3.toNat / 16), sgn b (o3.toNat % 16)].toArray⟩ t1, .int 0 t2, .int 2 t3] 2 (o0.toNat) := by
  have h0 := o0.toNat_lt; have h1 := o1.toNat_lt; have h2 := o2.toNat_lt; have h3 := o3.toNat_lt
  exact tq w p loose mean mg mb (by decide) sl02 (Nat.le_of_ble_eq_true rfl) (by rfl) (by decide) (by simp only [List.forall_mem_cons, List.not_mem_nil, false_implies, implies_true, and_true]; exact ⟨sg_lt b (by omega), sg_lt b (by omega)⟩) (by simp only [List.all_cons, List.all_nil, Bool.and_true]; rw [sg_hex b (by omega), sg_hex b (by omega)]; rfl) (by simp) (hv2 (sg_dig b (by omega)) (sg_dig b (by omega))) (by omega)
theorem q2_1 : ∀ news t1 t2 t3, ClmTQ w p loose mean mg mb news 217 12 [.str ⟨[sgn b (o0.toNat / 16), sgn b (o0.toNat % 16), sgn b (o1.toNat / 16), sgn b (o1.toNat % 16), sgn b (o2.toNat / 16), sgn b (o2.toNat % 16), sgn b (o3.toNat / 16), sgn b (o3.toNat % 16)].toArray⟩ t1, .int 2 t2, .int 2 t3] 4 (o1.toNat) := by
  have h0 := o0.toNat_lt; have h1 := o1.toNat_lt; have h2 := o2.toNat_lt; have h3 := o3.toNat_lt
  exact tq w p loose mean mg mb (by decide) sl22 (Nat.le_of_ble_eq_true rfl) (by rfl) (by decide) (by simp only [List.forall_mem_cons, List.not_mem_nil, false_implies, implies_true, and_true]; exact ⟨sg_lt b (by omega), sg_lt b (by omega)⟩) (by simp only [List.all_cons, List.all_nil, Bool.and_true]; rw [sg_hex b (by omega), sg_hex b (by omega)]; rfl) (by simp) (hv2 (sg_dig b (by omega)) (sg_dig b (by omega))) (by omega)
theorem q2_2 : ∀ news t1 t2 t3, ClmTQ w p loose mean mg mb news 217 12 [.str ⟨[sgn b (o0.toNat / 16), sgn b (o0.toNat % 16), sgn b (o1.toNat / 16), sgn b (o1.toNat % 16), sgn b (o2.toNat / 16), sgn b (o2.toNat % 16), sgn b (o3.toNat / 16), sgn b (o3.toNat % 16)].toArray⟩ t1, .int 4 t2, .int 2 t3] 6 (o2.toNat) := by
  have h0 := o0.toNat_lt; have h1 := o1.toNat_lt; have h2 := o2.toNat_lt; have h3 := o3.toNat_lt
  exact tq w p loose mean mg mb (by decide) sl42 (Nat.le_of_ble_eq_true rfl) (by rfl) (by decide) (by simp only [List.forall_mem_cons, List.not_mem_nil, false_implies, implies_true, and_true]; exact ⟨sg_lt b (by omega), sg_lt b (by omega)⟩) (by simp only [List.all_cons, List.all_nil, Bool.and_true]; rw [sg_hex b (by omega), sg_hex b (by omega)]; rfl) (by simp) (hv2 (sg_dig b (by omega)) (sg_dig b (by omega))) (by omega)
theorem q2_3 : ∀ news t1 t2 t3, ClmTQ w p loose mean mg mb news 217 12 [.str ⟨[sgn b (o0.toNat / 16), sgn b (o0.toNat % 16), sgn b (o1.toNat / 16), sgn b (o1.toNat % 16), sgn b (o2.toNat / 16), sgn b (o2.toNat % 16), sgn b (o3.toNat / 16), sgn b (o3.toNat % 16)].toArray⟩ t1, .int 6 t2, .int 2 t3] 8 (o3.toNat) := by
  have h0 := o0.toNat_lt; have h1 := o1.toNat_lt; have h2 := o2.toNat_lt; have h3 := o3.toNat_lt
  exact tq w p loose mean mg mb (by decide) sl62 (Nat.le_of_ble_eq_true rfl) (by rfl) (by decide) (by simp only [List.forall_mem_cons, List.not_mem_nil, false_implies, implies_true, and_true]; exact ⟨sg_lt b (by omega), sg_lt b (by omega)⟩) (by simp only [List.all_cons, List.all_nil, Bool.and_true]; rw [sg_hex b (by omega), sg_hex b (by omega)]; rfl) (by simp) (hv2 (sg_dig b (by omega)) (sg_dig b (by omega))) (by omega)
theorem q4_0 : (((∀ news t1 t2 t3, ClmTQ w p loose mean mg mb news 217 12 [.str ⟨[sgn b (o0.toNat / 16), sgn b (o0.toNat % 16), sgn b (o1.toNat / 16), sgn b (o1.toNat % 16), sgn b (o2.toNat / 16), sgn b (o2.toNat % 16), sgn b (o3.toNat / 16), sgn b (o3.toNat % 16)].toArray⟩ t1, .int 0 t2, .int 4 t3] 4 (o0.toNat * 256 + o1.toNat)) ∧ (∀ news t1 t2 t3, ClmQ w p loose mean mg mb news 224 3 [.int ((o0.toNat * 256 + o1.toNat : Nat) : Int) t1, .int 4 t2, .int 8 t3] 4 (o0.toNat * 256 + o1.toNat)) ∧ (o0.toNat * 256 + o1.toNat) < 1114112) ∨ ((∀ others t1 t2 t3, ClmTE w p loose mean mg mb others 217 12 [.str ⟨[sgn b (o0.toNat / 16), sgn b (o0.toNat % 16), sgn b (o1.toNat / 16), sgn b (o1.toNat % 16), sgn b (o2.toNat / 16), sgn b (o2.toNat % 16), sgn b (o3.toNat / 16), sgn b (o3.toNat % 16)].toArray⟩ t1, .int 0 t2, .int 4 t3] (PySem.Str.ofString "Escaped character is not a Unicode scalar value (at line 1, column 5)")) ∧ (∀ news t1 t2 t3, Clm w p loose mean mg mb news 224 3 [.int ((o0.toNat * 256 + o1.toNat : Nat) : Int) t1, .int 4 t2, .int 8 t3] (fun t => .str (PySem.Str.ofString "Escaped character is not a Unicode scalar value (at line 1, column 5)") t)))) := by
  have h0 := o0.toNat_lt; have h1 := o1.toNat_lt; have h2 := o2.toNat_lt; have h3 := o3.toNat_lt
  by_cases hc : (o0.toNat * 256 + o1.toNat) < 55296 ∨ 57343 < (o0.toNat * 256 + o1.toNat) ∧ (o0.toNat * 256 + o1.toNat) < 1114112
  · refine .inl ⟨tq w p loose mean mg mb (by decide) sl04 (Nat.le_of_ble_eq_true rfl) (by rfl) (by decide) (by simp only [List.forall_mem_cons, List.not_mem_nil, false_implies, implies_true, and_true]; exact ⟨sg_lt b (by omega), sg_lt b (by omega), sg_lt b (by omega), sg_lt b (by omega)⟩) (by simp only [List.all_cons, List.all_nil, Bool.and_true]; rw [sg_hex b (by omega), sg_hex b (by omega), sg_hex b (by omega), sg_hex b (by omega)]; rfl) (by simp) (hv4 (sg_dig b (by omega)) (sg_dig b (by omega)) (sg_dig b (by omega)) (sg_dig b (by omega))) (by omega), fun news t1 t2 t3 => due_ok w p loose mean mg mb news _ _ _ _ t1 t2 t3 (by omega) (by omega) (Int.toNat_natCast _), by omega⟩
  · refine .inr ⟨te_ns w p loose mean mg mb sl04 (Nat.le_of_ble_eq_true rfl) (by rfl) (by decide) (by simp only [List.forall_mem_cons, List.not_mem_nil, false_implies, implies_true, and_true]; exact ⟨sg_lt b (by omega), sg_lt b (by omega), sg_lt b (by omega), sg_lt b (by omega)⟩) (by simp only [List.all_cons, List.all_nil, Bool.and_true]; rw [sg_hex b (by omega), sg_hex b (by omega), sg_hex b (by omega), sg_hex b (by omega)]; rfl) (by simp) (hv4 (sg_dig b (by omega)) (sg_dig b (by omega)) (sg_dig b (by omega)) (sg_dig b (by omega))) (by omega) fun others t1 t2 t3 => sfx_B w p loose mean mg mb others [sgn b (o0.toNat / 16), sgn b (o0.toNat % 16), sgn b (o1.toNat / 16), sgn b (o1.toNat % 16), sgn b (o2.toNat / 16), sgn b (o2.toNat % 16), sgn b (o3.toNat / 16), sgn b (o3.toNat % 16)] 8 t1 t2 t3 (by rfl) (by decide) (by decide) (by simp only [List.forall_mem_cons, List.not_mem_nil, false_implies, implies_true, and_true]; exact ⟨⟨sg_lt b (by omega), sg_nl b (by omega)⟩, ⟨sg_lt b (by omega), sg_nl b (by omega)⟩, ⟨sg_lt b (by omega), sg_nl b (by omega)⟩, ⟨sg_lt b (by omega), sg_nl b (by omega)⟩, ⟨sg_lt b (by omega), sg_nl b (by omega)⟩, ⟨sg_lt b (by omega), sg_nl b (by omega)⟩, ⟨sg_lt b (by omega), sg_nl b (by omega)⟩, ⟨sg_lt b (by omega), sg_nl b (by omega)⟩⟩), fun news t1 t2 t3 => due_no0 w p loose mean mg mb news _ t1 t2 t3 (by omega)⟩
theorem q4_1 : (((∀ news t1 t2 t3, ClmTQ w p loose mean mg mb news 217 12 [.str ⟨[sgn b (o0.toNat / 16), sgn b (o0.toNat % 16), sgn b (o1.toNat / 16), sgn b (o1.toNat % 16), sgn b (o2.toNat / 16), sgn b (o2.toNat % 16), sgn b (o3.toNat / 16), sgn b (o3.toNat % 16)].toArray⟩ t1, .int 4 t2, .int 4 t3] 8 (o2.toNat * 256 + o3.toNat)) ∧ (∀ news t1 t2 t3, ClmQ w p loose mean mg mb news 224 3 [.int ((o2.toNat * 256 + o3.toNat : Nat) : Int) t1, .int 8 t2, .int 8 t3] 8 (o2.toNat * 256 + o3.toNat)) ∧ (o2.toNat * 256 + o3.toNat) < 1114112) ∨ ((∀ others t1 t2 t3, ClmTE w p loose mean mg mb others 217 12 [.str ⟨[sgn b (o0.toNat / 16), sgn b (o0.toNat % 16), sgn b (o1.toNat / 16), sgn b (o1.toNat % 16), sgn b (o2.toNat / 16), sgn b (o2.toNat % 16), sgn b (o3.toNat / 16), sgn b (o3.toNat % 16)].toArray⟩ t1, .int 4 t2, .int 4 t3] (PySem.Str.ofString "Escaped character is not a Unicode scalar value (at end of document)")) ∧ (∀ news t1 t2 t3, Clm w p loose mean mg mb news 224 3 [.int ((o2.toNat * 256 + o3.toNat : Nat) : Int) t1, .int 8 t2, .int 8 t3] (fun t => .str (PySem.Str.ofString "Escaped character is not a Unicode scalar value (at end of document)") t)))) := by
  have h0 := o0.toNat_lt; have h1 := o1.toNat_lt; have h2 := o2.toNat_lt; have h3 := o3.toNat_lt
  by_cases hc : (o2.toNat * 256 + o3.toNat) < 55296 ∨ 57343 < (o2.toNat * 256 + o3.toNat) ∧ (o2.toNat * 256 + o3.toNat) < 1114112
  · refine .inl ⟨tq w p loose mean mg mb (by decide) sl44 (Nat.le_of_ble_eq_true rfl) (by rfl) (by decide) (by simp only [List.forall_mem_cons, List.not_mem_nil, false_implies, implies_true, and_true]; exact ⟨sg_lt b (by omega), sg_lt b (by omega), sg_lt b (by omega), sg_lt b (by omega)⟩) (by simp only [List.all_cons, List.all_nil, Bool.and_true]; rw [sg_hex b (by omega), sg_hex b (by omega), sg_hex b (by omega), sg_hex b (by omega)]; rfl) (by simp) (hv4 (sg_dig b (by omega)) (sg_dig b (by omega)) (sg_dig b (by omega)) (sg_dig b (by omega))) (by omega), fun news t1 t2 t3 => due_ok w p loose mean mg mb news _ _ _ _ t1 t2 t3 (by omega) (by omega) (Int.toNat_natCast _), by omega⟩
  · refine .inr ⟨te_ns w p loose mean mg mb sl44 (Nat.le_of_ble_eq_true rfl) (by rfl) (by decide) (by simp only [List.forall_mem_cons, List.not_mem_nil, false_implies, implies_true, and_true]; exact ⟨sg_lt b (by omega), sg_lt b (by omega), sg_lt b (by omega), sg_lt b (by omega)⟩) (by simp only [List.all_cons, List.all_nil, Bool.and_true]; rw [sg_hex b (by omega), sg_hex b (by omega), sg_hex b (by omega), sg_hex b (by omega)]; rfl) (by simp) (hv4 (sg_dig b (by omega)) (sg_dig b (by omega)) (sg_dig b (by omega)) (sg_dig b (by omega))) (by omega) fun others t1 t2 t3 => sfx_C w p loose mean mg mb others [sgn b (o0.toNat / 16), sgn b (o0.toNat % 16), sgn b (o1.toNat / 16), sgn b (o1.toNat % 16), sgn b (o2.toNat / 16), sgn b (o2.toNat % 16), sgn b (o3.toNat / 16), sgn b (o3.toNat % 16)] 8 t1 t2 t3 (by rfl) (by decide) (by decide) (by simp only [List.forall_mem_cons, List.not_mem_nil, false_implies, implies_true, and_true]; exact ⟨⟨sg_lt b (by omega), sg_nl b (by omega)⟩, ⟨sg_lt b (by omega), sg_nl b (by omega)⟩, ⟨sg_lt b (by omega), sg_nl b (by omega)⟩, ⟨sg_lt b (by omega), sg_nl b (by omega)⟩, ⟨sg_lt b (by omega), sg_nl b (by omega)⟩, ⟨sg_lt b (by omega), sg_nl b (by omega)⟩, ⟨sg_lt b (by omega), sg_nl b (by omega)⟩, ⟨sg_lt b (by omega), sg_nl b (by omega)⟩⟩), fun news t1 t2 t3 => due_no1 w p loose mean mg mb news _ t1 t2 t3 (by omega)⟩
theorem q8 : ((∀ news t1 t2 t3, ClmTQ w p loose mean mg mb news 217 12 [.str ⟨[sgn b (o0.toNat / 16), sgn b (o0.toNat % 16), sgn b (o1.toNat / 16), sgn b (o1.toNat % 16), sgn b (o2.toNat / 16), sgn b (o2.toNat % 16), sgn b (o3.toNat / 16), sgn b (o3.toNat % 16)].toArray⟩ t1, .int 0 t2, .int 8 t3] 8 (((o0.toNat * 256 + o1.toNat) * 256 + o2.toNat) * 256 + o3.toNat)) ∧ (∀ news t1 t2 t3, ClmQ w p loose mean mg mb news 224 3 [.int ((((o0.toNat * 256 + o1.toNat) * 256 + o2.toNat) * 256 + o3.toNat : Nat) : Int) t1, .int 8 t2, .int 8 t3] 8 (((o0.toNat * 256 + o1.toNat) * 256 + o2.toNat) * 256 + o3.toNat)) ∧ (∀ news t1 t2 t3, ClmTQ w p loose mean mg mb news 217 12 [.str ⟨[sgn b (o0.toNat / 16), sgn b (o0.toNat % 16), sgn b (o1.toNat / 16), sgn b (o1.toNat % 16), sgn b (o2.toNat / 16), sgn b (o2.toNat % 16), sgn b (o3.toNat / 16), sgn b (o3.toNat % 16), 32].toArray⟩ t1, .int 0 t2, .int 8 t3] 8 (((o0.toNat * 256 + o1.toNat) * 256 + o2.toNat) * 256 + o3.toNat)) ∧ (∀ news t1 t2 t3, ClmQ w p loose mean mg mb news 224 3 [.int ((((o0.toNat * 256 + o1.toNat) * 256 + o2.toNat) * 256 + o3.toNat : Nat) : Int) t1, .int 8 t2, .int 9 t3] 8 (((o0.toNat * 256 + o1.toNat) * 256 + o2.toNat) * 256 + o3.toNat)) ∧ (((o0.toNat * 256 + o1.toNat) * 256 + o2.toNat) * 256 + o3.toNat) < 1114112) ∨ ((∀ others t1 t2 t3, ClmTE w p loose mean mg mb others 217 12 [.str ⟨[sgn b (o0.toNat / 16), sgn b (o0.toNat % 16), sgn b (o1.toNat / 16), sgn b (o1.toNat % 16), sgn b (o2.toNat / 16), sgn b (o2.toNat % 16), sgn b (o3.toNat / 16), sgn b (o3.toNat % 16)].toArray⟩ t1, .int 0 t2, .int 8 t3] (PySem.Str.ofString "Escaped character is not a Unicode scalar value (at end of document)")) ∧ (∀ news t1 t2 t3, Clm w p loose mean mg mb news 224 3 [.int ((((o0.toNat * 256 + o1.toNat) * 256 + o2.toNat) * 256 + o3.toNat : Nat) : Int) t1, .int 8 t2, .int 8 t3] (fun t => .str (PySem.Str.ofString "Escaped character is not a Unicode scalar value (at end of document)") t)) ∧ (∀ others t1 t2 t3, ClmTE w p loose mean mg mb others 217 12 [.str ⟨[sgn b (o0.toNat / 16), sgn b (o0.toNat % 16), sgn b (o1.toNat / 16), sgn b (o1.toNat % 16), sgn b (o2.toNat / 16), sgn b (o2.toNat % 16), sgn b (o3.toNat / 16), sgn b (o3.toNat % 16), 32].toArray⟩ t1, .int 0 t2, .int 8 t3] (PySem.Str.ofString "Escaped character is not a Unicode scalar value (at line 1, column 9)")) ∧ (∀ news t1 t2 t3, Clm w p loose mean mg mb news 224 3 [.int ((((o0.toNat * 256 + o1.toNat) * 256 + o2.toNat) * 256 + o3.toNat : Nat) : Int) t1, .int 8 t2, .int 9 t3] (fun t => .str (PySem.Str.ofString "Escaped character is not a Unicode scalar value (at line 1, column 9)") t))) := by
  have h0 := o0.toNat_lt; have h1 := o1.toNat_lt; have h2 := o2.toNat_lt; have h3 := o3.toNat_lt
  by_cases hc : (((o0.toNat * 256 + o1.toNat) * 256 + o2.toNat) * 256 + o3.toNat) < 55296 ∨ 57343 < (((o0.toNat * 256 + o1.toNat) * 256 + o2.toNat) * 256 + o3.toNat) ∧ (((o0.toNat * 256 + o1.toNat) * 256 + o2.toNat) * 256 + o3.toNat) < 1114112
  · exact .inl ⟨tq w p loose mean mg mb (by decide) sl08 (Nat.le_of_ble_eq_true rfl) (by rfl) (by decide) (by simp only [List.forall_mem_cons, List.not_mem_nil, false_implies, implies_true, and_true]; exact ⟨sg_lt b (by omega), sg_lt b (by omega), sg_lt b (by omega), sg_lt b (by omega), sg_lt b (by omega), sg_lt b (by omega), sg_lt b (by omega), sg_lt b (by omega)⟩) (by simp only [List.all_cons, List.all_nil, Bool.and_true]; rw [sg_hex b (by omega), sg_hex b (by omega), sg_hex b (by omega), sg_hex b (by omega), sg_hex b (by omega), sg_hex b (by omega), sg_hex b (by omega), sg_hex b (by omega)]; rfl) (by simp) (hv8 (sg_dig b (by omega)) (sg_dig b (by omega)) (sg_dig b (by omega)) (sg_dig b (by omega)) (sg_dig b (by omega)) (sg_dig b (by omega)) (sg_dig b (by omega)) (sg_dig b (by omega))) (by omega), fun news t1 t2 t3 => due_ok w p loose mean mg mb news _ _ _ _ t1 t2 t3 (by omega) (by omega) (Int.toNat_natCast _), tq w p loose mean mg mb (by decide) sl98 (Nat.le_of_ble_eq_true rfl) (by rfl) (by decide) (by simp only [List.forall_mem_cons, List.not_mem_nil, false_implies, implies_true, and_true]; exact ⟨sg_lt b (by omega), sg_lt b (by omega), sg_lt b (by omega), sg_lt b (by omega), sg_lt b (by omega), sg_lt b (by omega), sg_lt b (by omega), sg_lt b (by omega)⟩) (by simp only [List.all_cons, List.all_nil, Bool.and_true]; rw [sg_hex b (by omega), sg_hex b (by omega), sg_hex b (by omega), sg_hex b (by omega), sg_hex b (by omega), sg_hex b (by omega), sg_hex b (by omega), sg_hex b (by omega)]; rfl) (by simp) (hv8 (sg_dig b (by omega)) (sg_dig b (by omega)) (sg_dig b (by omega)) (sg_dig b (by omega)) (sg_dig b (by omega)) (sg_dig b (by omega)) (sg_dig b (by omega)) (sg_dig b (by omega))) (by omega), fun news t1 t2 t3 => due_ok w p loose mean mg mb news _ _ _ _ t1 t2 t3 (by omega) (by omega) (Int.toNat_natCast _), by omega⟩
  · exact .inr ⟨te_ns w p loose mean mg mb sl08 (Nat.le_of_ble_eq_true rfl) (by rfl) (by decide) (by simp only [List.forall_mem_cons, List.not_mem_nil, false_implies, implies_true, and_true]; exact ⟨sg_lt b (by omega), sg_lt b (by omega), sg_lt b (by omega), sg_lt b (by omega), sg_lt b (by omega), sg_lt b (by omega), sg_lt b (by omega), sg_lt b (by omega)⟩) (by simp only [List.all_cons, List.all_nil, Bool.and_true]; rw [sg_hex b (by omega), sg_hex b (by omega), sg_hex b (by omega), sg_hex b (by omega), sg_hex b (by omega), sg_hex b (by omega), sg_hex b (by omega), sg_hex b (by omega)]; rfl) (by simp) (hv8 (sg_dig b (by omega)) (sg_dig b (by omega)) (sg_dig b (by omega)) (sg_dig b (by omega)) (sg_dig b (by omega)) (sg_dig b (by omega)) (sg_dig b (by omega)) (sg_dig b (by omega))) (by omega) fun others t1 t2 t3 => sfx_C w p loose mean mg mb others [sgn b (o0.toNat / 16), sgn b (o0.toNat % 16), sgn b (o1.toNat / 16), sgn b (o1.toNat % 16), sgn b (o2.toNat / 16), sgn b (o2.toNat % 16), sgn b (o3.toNat / 16), sgn b (o3.toNat % 16)] 8 t1 t2 t3 (by rfl) (by decide) (by decide) (by simp only [List.forall_mem_cons, List.not_mem_nil, false_implies, implies_true, and_true]; exact ⟨⟨sg_lt b (by omega), sg_nl b (by omega)⟩, ⟨sg_lt b (by omega), sg_nl b (by omega)⟩, ⟨sg_lt b (by omega), sg_nl b (by omega)⟩, ⟨sg_lt b (by omega), sg_nl b (by omega)⟩, ⟨sg_lt b (by omega), sg_nl b (by omega)⟩, ⟨sg_lt b (by omega), sg_nl b (by omega)⟩, ⟨sg_lt b (by omega), sg_nl b (by omega)⟩, ⟨sg_lt b (by omega), sg_nl b (by omega)⟩⟩), fun news t1 t2 t3 => due_no1 w p loose mean mg mb news _ t1 t2 t3 (by omega), te_ns w p loose mean mg mb sl98 (Nat.le_of_ble_eq_true rfl) (by rfl) (by decide) (by simp only [List.forall_mem_cons, List.not_mem_nil, false_implies, implies_true, and_true]; exact ⟨sg_lt b (by omega), sg_lt b (by omega), sg_lt b (by omega), sg_lt b (by omega), sg_lt b (by omega), sg_lt b (by omega), sg_lt b (by omega), sg_lt b (by omega)⟩) (by simp only [List.all_cons, List.all_nil, Bool.and_true]; rw [sg_hex b (by omega), sg_hex b (by omega), sg_hex b (by omega), sg_hex b (by omega), sg_hex b (by omega), sg_hex b (by omega), sg_hex b (by omega), sg_hex b (by omega)]; rfl) (by simp) (hv8 (sg_dig b (by omega)) (sg_dig b (by omega)) (sg_dig b (by omega)) (sg_dig b (by omega)) (sg_dig b (by omega)) (sg_dig b (by omega)) (sg_dig b (by omega)) (sg_dig b (by omega))) (by omega) fun others t1 t2 t3 => sfx_D w p loose mean mg mb others [sgn b (o0.toNat / 16), sgn b (o0.toNat % 16), sgn b (o1.toNat / 16), sgn b (o1.toNat % 16), sgn b (o2.toNat / 16), sgn b (o2.toNat % 16), sgn b (o3.toNat / 16), sgn b (o3.toNat % 16), 32] 9 t1 t2 t3 (by rfl) (by decide) (by decide) (by simp only [List.forall_mem_cons, List.not_mem_nil, false_implies, implies_true, and_true]; exact ⟨⟨sg_lt b (by omega), sg_nl b (by omega)⟩, ⟨sg_lt b (by omega), sg_nl b (by omega)⟩, ⟨sg_lt b (by omega), sg_nl b (by omega)⟩, ⟨sg_lt b (by omega), sg_nl b (by omega)⟩, ⟨sg_lt b (by omega), sg_nl b (by omega)⟩, ⟨sg_lt b (by omega), sg_nl b (by omega)⟩, ⟨sg_lt b (by omega), sg_nl b (by omega)⟩, ⟨sg_lt b (by omega), sg_nl b (by omega)⟩, by decide⟩), fun news t1 t2 t3 => due_no2 w p loose mean mg mb news _ t1 t2 t3 (by omega)⟩
abbrev BadT (w : World) (p : Program) (loose : List PySem.Str) (mean : ExcName → Option Value) (mg mb : PySem.Str → Option Value) (xs : PySem.Str) : Prop := ∀ others t1 t2 t3, ClmTE w p loose mean mg mb others 217 12 [.str xs t1, .int 0 t2, .int 8 t3] (PySem.Str.ofString "Invalid hex value (at line 1, column 1)")
theorem bad7 : BadT w p loose mean mg mb ⟨[sgn b (o0.toNat / 16), sgn b (o0.toNat % 16), sgn b (o1.toNat / 16), sgn b (o1.toNat % 16), sgn b (o2.toNat / 16), sgn b (o2.toNat % 16), sgn b (o3.toNat / 16)].toArray⟩ := by
  have h0 := o0.toNat_lt; have h1 := o1.toNat_lt; have h2 := o2.toNat_lt; have h3 := o3.toNat_lt
  exact te_bl w p loose mean mg mb (k := 7) sl78 (Nat.le_of_ble_eq_true rfl) (by rfl) (by decide) (by decide) fun others t1 t2 t3 => sfx_A w p loose mean mg mb others [sgn b (o0.toNat / 16), sgn b (o0.toNat % 16), sgn b (o1.toNat / 16), sgn b (o1.toNat % 16), sgn b (o2.toNat / 16), sgn b (o2.toNat % 16), sgn b (o3.toNat / 16)] 7 t1 t2 t3 (by rfl) (by decide) (by decide) (by simp only [List.forall_mem_cons, List.not_mem_nil, false_implies, implies_true, and_true]; exact ⟨⟨sg_lt b (by omega), sg_nl b (by omega)⟩, ⟨sg_lt b (by omega), sg_nl b (by omega)⟩, ⟨sg_lt b (by omega), sg_nl b (by omega)⟩, ⟨sg_lt b (by omega), sg_nl b (by omega)⟩, ⟨sg_lt b (by omega), sg_nl b (by omega)⟩, ⟨sg_lt b (by omega), sg_nl b (by omega)⟩, ⟨sg_lt b (by omega), sg_nl b (by omega)⟩⟩)
theorem badC (c : Nat) (hc : c ∈ [103, 95, 43, 45, 32, 120]) : HexSign c = false ∧ c < 128 ∧ c ≠ 10 := by
  revert c
  decide
theorem bad0 (c : Nat) (hc : c ∈ [103, 95, 43, 45, 32, 120]) : BadT w p loose mean mg mb ⟨[c, sgn b (o0.toNat % 16), sgn b (o1.toNat / 16), sgn b (o1.toNat % 16), sgn b (o2.toNat / 16), sgn b (o2.toNat % 16), sgn b (o3.toNat / 16), sgn b (o3.toNat % 16)].toArray⟩ := by
  have h0 := o0.toNat_lt; have h1 := o1.toNat_lt; have h2 := o2.toNat_lt; have h3 := o3.toNat_lt
  obtain ⟨k1, k2, k3⟩ := badC c hc
  refine te_bs w p loose mean mg mb sl08 (Nat.le_of_ble_eq_true rfl) (by rfl) (by decide) (by simp only [List.forall_mem_cons, List.not_mem_nil, false_implies, implies_true, and_true]; exact ⟨k2, sg_lt b (by omega), sg_lt b (by omega), sg_lt b (by omega), sg_lt b (by omega), sg_lt b (by omega), sg_lt b (by omega), sg_lt b (by omega)⟩) ?_ fun others t1 t2 t3 => sfx_A w p loose mean mg mb others [c, sgn b (o0.toNat % 16), sgn b (o1.toNat / 16), sgn b (o1.toNat % 16), sgn b (o2.toNat / 16), sgn b (o2.toNat % 16), sgn b (o3.toNat / 16), sgn b (o3.toNat % 16)] 8 t1 t2 t3 (by rfl) (by decide) (by decide) (by simp only [List.forall_mem_cons, List.not_mem_nil, false_implies, implies_true, and_true]; exact ⟨⟨k2, k3⟩, ⟨sg_lt b (by omega), sg_nl b (by omega)⟩, ⟨sg_lt b (by omega), sg_nl b (by omega)⟩, ⟨sg_lt b (by omega), sg_nl b (by omega)⟩, ⟨sg_lt b (by omega), sg_nl b (by omega)⟩, ⟨sg_lt b (by omega), sg_nl b (by omega)⟩, ⟨sg_lt b (by omega), sg_nl b (by omega)⟩, ⟨sg_lt b (by omega), sg_nl b (by omega)⟩⟩)
  simp only [List.all_cons, k1, Bool.false_and, Bool.and_false]
theorem bad1 (c : Nat) (hc : c ∈ [103, 95, 43, 45, 32, 120]) : BadT w p loose mean mg mb ⟨[sgn b (o0.toNat / 16), c, sgn b (o1.toNat / 16), sgn b (o1.toNat % 16), sgn b (o2.toNat / 16), sgn b (o2.toNat % 16), sgn b (o3.toNat / 16), sgn b (o3.toNat % 16)].toArray⟩ := by
  have h0 := o0.toNat_lt; have h1 := o1.toNat_lt; have h2 := o2.toNat_lt; have h3 := o3.toNat_lt
  obtain ⟨k1, k2, k3⟩ := badC c hc
  refine te_bs w p loose mean mg mb sl08 (Nat.le_of_ble_eq_true rfl) (by rfl) (by decide) (by simp only [List.forall_mem_cons, List.not_mem_nil, false_implies, implies_true, and_true]; exact ⟨sg_lt b (by omega), k2, sg_lt b (by omega), sg_lt b (by omega), sg_lt b (by omega), sg_lt b (by omega), sg_lt b (by omega), sg_lt b (by omega)⟩) ?_ fun others t1 t2 t3 => sfx_A w p loose mean mg mb others [sgn b (o0.toNat / 16), c, sgn b (o1.toNat / 16), sgn b (o1.toNat % 16), sgn b (o2.toNat / 16), sgn b (o2.toNat % 16), sgn b (o3.toNat / 16), sgn b (o3.toNat % 16)] 8 t1 t2 t3 (by rfl) (by decide) (by decide) (by simp only [List.forall_mem_cons, List.not_mem_nil, false_implies, implies_true, and_true]; exact ⟨⟨sg_lt b (by omega), sg_nl b (by omega)⟩, ⟨k2, k3⟩, ⟨sg_lt b (by omega), sg_nl b (by omega)⟩, ⟨sg_lt b (by omega), sg_nl b (by omega)⟩, ⟨sg_lt b (by omega), sg_nl b (by omega)⟩, ⟨sg_lt b (by omega), sg_nl b (by omega)⟩, ⟨sg_lt b (by omega), sg_nl b (by omega)⟩, ⟨sg_lt b (by omega), sg_nl b (by omega)⟩⟩)
  simp only [List.all_cons, k1, Bool.false_and, Bool.and_false]
theorem bad3 (c : Nat) (hc : c ∈ [103, 95, 43, 45, 32, 120]) : BadT w p loose mean mg mb ⟨[sgn b (o0.toNat / 16), sgn b (o0.toNat % 16), sgn b (o1.toNat / 16), c, sgn b (o2.toNat / 16), sgn b (o2.toNat % 16), sgn b (o3.toNat / 16), sgn b (o3.toNat % 16)].toArray⟩ := by
  have h0 := o0.toNat_lt; have h1 := o1.toNat_lt; have h2 := o2.toNat_lt; have h3 := o3.toNat_lt
  obtain ⟨k1, k2, k3⟩ := badC c hc
  refine te_bs w p loose mean mg mb sl08 (Nat.le_of_ble_eq_true rfl) (by rfl) (by decide) (by simp only [List.forall_mem_cons, List.not_mem_nil, false_implies, implies_true, and_true]; exact ⟨sg_lt b (by omega), sg_lt b (by omega), sg_lt b (by omega), k2, sg_lt b (by omega), sg_lt b (by omega), sg_lt b (by omega), sg_lt b (by omega)⟩) ?_ fun others t1 t2 t3 => sfx_A w p loose mean mg mb others [sgn b (o0.toNat / 16), sgn b (o0.toNat % 16), sgn b (o1.toNat / 16), c, sgn b (o2.toNat / 16), sgn b (o2.toNat % 16), sgn b (o3.toNat / 16), sgn b (o3.toNat % 16)] 8 t1 t2 t3 (by rfl) (by decide) (by decide) (by simp only [List.forall_mem_cons, List.not_mem_nil, false_implies, implies_true, and_true]; exact ⟨⟨sg_lt b (by omega), sg_nl b (by omega)⟩, ⟨sg_lt b (by omega), sg_nl b (by omega)⟩, ⟨sg_lt b (by omega), sg_nl b (by omega)⟩, ⟨k2, k3⟩, ⟨sg_lt b (by omega), sg_nl b (by omega)⟩, ⟨sg_lt b (by omega), sg_nl b (by omega)⟩, ⟨sg_lt b (by omega), sg_nl b (by omega)⟩, ⟨sg_lt b (by omega), sg_nl b (by omega)⟩⟩)
  simp only [List.all_cons, k1, Bool.false_and, Bool.and_false]
end
end Mine
end
theorem Mine.rs_M4 : True := by (w_top off; k_with_none; trivial)

section
open PySem PySem.W PyProof.Rows
set_option Elab.async false
set_option maxRecDepth 100000
set_option linter.unusedVariables false
namespace Mine

theorem kwZ7_1 : True := by
  k_with_none
  (k_with "storeName" => (k_here; (try dsimp only); k_dflt (refine' storeX_P ?F ?N ?_ ?a ?b; (case F => k_asm); (case N => k_asm); (case a => rfl); (case b => rfl); k_whole); intro m' h' tk' F' N'; (try k_sweep)))
  (k_with "storeName" => (k_here; (try dsimp only); (with_reducible show wpAny _ _ (storeName _ _ (Value.int _ (HAdd.hAdd _ _))) _ _ _); k_dflt (refine' storeX_I ?F ?N ?_ ?a ?b; (case F => k_asm); (case N => k_asm); (case a => rfl); (case b => rfl); k_whole); intro t' m' h' tk' F' N'; (try k_sweep)))
  (k_with "storeName" => (k_here; (try dsimp only); (with_reducible show wpAny _ _ (storeName _ _ (Value.str _ (HAdd.hAdd _ _))) _ _ _); k_dflt (refine' storeX_S ?F ?N ?_ ?a ?b; (case F => k_asm); (case N => k_asm); (case a => rfl); (case b => rfl); k_whole); intro t' m' h' tk' F' N'; (try k_sweep)))
  (k_with "eval ListComp" => (k_here; k_dflt (refine ListComp_X (by k_asm) (by with_unfolding_all rfl) (by decide) (by rfl) (by decide) (by rfl) ?_ (by intro _; rfl))))
  (k_with "SrcX" => (k_here; k_dflt (first
  | (refine SrcX.bytes4 (by rfl) (by k_asm) (by k_asm) ?_; intro g')
  | (refine SrcX.range (by rfl) (by k_asm) (by k_asm) (by assumption) (by first | decide | rfl) (by first | rfl | decide) (by first | size_fits | exact Nat.le_of_ble_eq_true rfl) ?_; intro g'; lcg_lit))))
  (k_with "CompRest" => (with_unfolding_all (refine LCg.CompRest.succ ?_; intro v' I' oI' C' oC' D' m' h' tk' E' hv' hC' hx' F' N' off' ne'; obtain ⟨t9', hv9'⟩ := hv'; (first | simp only [List.getD_cons_succ, List.getD_cons_zero] at hv9' | simp at hv9' | skip); subst hv9'; have off8 := off'; (try simp only [LCg.Off3, and_true] at off8))))
  (k_with "CompEnd" => ((with_reducible rename LCg.Off3 _ _ _ _ => off9); (with_reducible rename News _ _ _ _ => N9); (with_reducible refine LCg.CompEnd.intro (by assumption) N9 _ (fun p hp => hp) off9 trivial ?_)))
  (k_with "call ref" => (k_here; (with_reducible show wpAny _ _ (call (Value.ref 217) _) _ _ _); k_dflt (refine' told_yes ?hS ?k1 ?k2 ?k3 ?k4 ?k5 ?kK ?kz ?kd ?ku ?_; (case hS => assumption); (case k1 => k_asm); (case k2 => k_asm); (case k3 => k_asm); (case k4 => k_asm); (case k5 => k_asm); (case kK => first | exact rfl | assumption); (case kz => assumption); (case kd => first | omega | ktr_room); (case ku => first | omega | ktr_units); k_whole); intro e9 t9 u9 h9 tk9 F9 N9 l9; (try dsimp only); (try k_fold)))
  trivial
section
variable {prog : Program} {w : World} {A : Around} {E : Value → Shared → Prop} {s : Shared} {Q : Value → Shared → Prop}
theorem r_chrU {o : UInt8} {t : Tok} (h : Q (.str ⟨[o.toNat].toArray⟩ s.toks) { s with toks := s.toks + 1 }) : wpAny (model prog w) A (call (.builtin "chr") [.int (o.toNat : Int) t]) Q E s :=
  r_chr (by omega) (by have := o.toNat_lt; omega) (by omega) h
end
theorem kwZ7_2 : True := by
  (k_with "call builtin:chr" => (k_here; (with_reducible refine r_chrU ?_)))
  (k_with "newTuple" => (k_here; k_dflt (refine' kup_newTuple ?F ?N ?_ ?z; (case F => k_asm); (case N => k_asm); (case z => first | exact Nat.le_of_ble_eq_true rfl | kmk_size)); intro D' h' F' N' l1))
  (k_with "CompEnd" => ((with_reducible rename LCg.Off3 _ _ _ _ => off9); (with_reducible rename News _ _ _ _ => N9); (first
  | (with_reducible refine LCg.CompEnd.intro (by assumption) N9 _ (fun p hp => hp) off9 trivial ?_)
  | (with_reducible refine compEnd1 (by assumption) N9 (by assumption) off9 trivial ?_))))
  (k_with "compareOp NotEq ref ref" => (k_here; (with_reducible rename News _ _ _ _ => N9); k_dflt (refine' ne_like ?ra ?rb ?sa ?sb ?u ?he ?_; (case ra => (repeat' (first | (with_reducible exact Reads.int _ _) | (with_reducible exact Reads.str _ _) | exact ReadsAll.nil | refine' ReadsAll.cons ?_ ?_ | (refine' reads_tuple_at (News.get N9 ?m) ?c ?d ?_; (case m => k_mem); (case c => exact rfl); (case d => exact rfl)) | (refine' reads_list_at (News.get N9 ?m) ?c ?d ?_; (case m => k_mem); (case c => exact rfl); (case d => exact rfl))))); (case rb => (repeat' (first | (with_reducible exact Reads.int _ _) | (with_reducible exact Reads.str _ _) | exact ReadsAll.nil | refine' ReadsAll.cons ?_ ?_ | (refine' reads_tuple_at (News.get N9 ?m) ?c ?d ?_; (case m => k_mem); (case c => exact rfl); (case d => exact rfl)) | (refine' reads_list_at (News.get N9 ?m) ?c ?d ?_; (case m => k_mem); (case c => exact rfl); (case d => exact rfl))))); (case sa => (refine shaped_of ?l ?d; (case d => exact Nat.le_of_ble_eq_true rfl); (case l => (simp only [PyData.canLay0, PyData.canLayAll0, Bool.and_true, Bool.true_and, Bool.and_eq_true, strOkOne, decide_eq_true_eq, u8ok, and_self]; try (repeat' (first | assumption | exact (by decide +kernel) | refine And.intro ?_ ?_)))))); (case sb => (refine shaped_of ?l ?d; (case d => exact Nat.le_of_ble_eq_true rfl); (case l => (simp only [PyData.canLay0, PyData.canLayAll0, Bool.and_true, Bool.true_and, Bool.and_eq_true, strOkOne, decide_eq_true_eq, u8ok, and_self]; try (repeat' (first | assumption | exact (by decide +kernel) | refine And.intro ?_ ?_)))))); (case u => first | (show _ + 64 < cLine; omega) | ktr_units); (case he => first | rfl | (simp [PyData.eqv, PyData.eqvAll]; done)))))
  trivial
set_option maxHeartbeats 4000000 in
theorem S7 (w : World) (p : Program) (loose : List PySem.Str) (mean : ExcName → Option Value) (mg mb : PySem.Str → Option Value) (cs : Scope) (hcs : cs = lawScope) (s0 s1 s2 s3 s4 s5 s6 s7 : Nat) (o0 o1 o2 o3 : UInt8) (tS tO : Tok) :
    ∀ (dp un : Nat) (gd : Option (List Code)) (fa : Addr) (cd : Value) (A₀ : Around) (h₀ : Heap) (L : Addr) (m₁ : PySem.Str → Option Value) (s : Shared) (Q : Flow → Shared → Prop) (E : Value → Shared → Prop) (ps : Array Value) (c : Addr) (oc oN oO oS oH : Obj) (Dl : Addr) (oD : Obj) (I : Addr) (oI : Obj), Below A₀ h₀ [] h₀ → (hd.heap_39 w.params).In h₀ → Top p loose mean mg mb h₀ → FzAt w h₀ → dp + 20 < recursionLimit → un + 160 < cLine → Wrm ps c oc → LawAt c L Dl I → Fr h₀ L s.heap m₁ → News h₀ L s.heap [(64, tabObj ps), (c, oc), (L + 1, oN), (L + 1 + 1, oO), (L + 1 + 1 + 1, oS), (L + 1 + 1 + 1 + 1, oH), (Dl, oD), (I, oI)] → oS.data = .cell (some (.str ⟨[s0, s1, s2, s3, s4, s5, s6, s7].toArray⟩ tS)) → oO.data = .cell (some (.bytes [o0, o1, o2, o3].toArray tO)) → (∀ news t1 t2 t3, ClmTQ w p loose mean mg mb news 217 12 [.str ⟨[s0, s1, s2, s3, s4, s5, s6, s7].toArray⟩ t1, .int 0 t2, .int 2 t3] 2 (o0.toNat)) → (∀ news t1 t2 t3, ClmTQ w p loose mean mg mb news 217 12 [.str ⟨[s0, s1, s2, s3, s4, s5, s6, s7].toArray⟩ t1, .int 2 t2, .int 2 t3] 4 (o1.toNat)) → (∀ news t1 t2 t3, ClmTQ w p loose mean mg mb news 217 12 [.str ⟨[s0, s1, s2, s3, s4, s5, s6, s7].toArray⟩ t1, .int 4 t2, .int 2 t3] 6 (o2.toNat)) → (∀ news t1 t2 t3, ClmTQ w p loose mean mg mb news 217 12 [.str ⟨[s0, s1, s2, s3, s4, s5, s6, s7].toArray⟩ t1, .int 6 t2, .int 2 t3] 8 (o3.toNat)) →
    (∀ h' tk', Fr h₀ L h' m₁ → News h₀ L h' [(64, tabObj ps), (c, oc), (L + 1, oN), (L + 1 + 1, oO), (L + 1 + 1 + 1, oS), (L + 1 + 1 + 1 + 1, oH), (Dl, oD), (I, oI)] → Q .next { s with heap := h', toks := tk' }) →
    wpAny (model PySem.Challenge.rw_qh0008_01.row.prog w) (ktrTop dp un gd (PySem.Str.ofString "law") cs L fa cd (cellsFrom (L + 1) cs.names []) []) (exec (lawSt 6) (envX (PySem.Str.ofString "law") cs L fa cd (cellsFrom (L + 1) cs.names []))) Q E s := by
  conv at hcs => rhs; whnf
  subst hcs
  k_fill
  intro dp un gd fa cd A₀ h₀ L m₁ s Q E ps c oc oN oO oS oH Dl oD I oI B X T Z hd9 hu9 W lw F N dS dO q0 q1 q2 q3 ret
  have lw9 := lw
  obtain ⟨l0, l1, l2, l3, l4, l5, l6, l7, l8⟩ := lw
  conv => enter [3, 1]; whnf
  k_steps
  all_goals (refine' ret _ _ ?e1 ?e2; (case e1 => k_asm); (case e2 => first | k_asm | ((with_reducible rename News _ _ _ _ => N9); exact fun p hp => N9 p (by simp only [List.mem_cons, List.not_mem_nil, or_false] at hp ⊢; rcases hp with hp | hp | hp | hp | hp | hp | hp | hp <;> simp only [hp, true_or, or_true]))))

end Mine
end
theorem Mine.rs_Z7 : True := by (w_top off; k_with_none; trivial)

section
open PySem PySem.W PyProof.Rows
set_option Elab.async false
set_option maxRecDepth 100000
set_option linter.unusedVariables false
namespace Mine

theorem kwC6_1 : True := by
  k_with_none
  (k_with "storeName" => (k_here; (try dsimp only); k_dflt (refine' storeX_P ?F ?N ?_ ?a ?b; (case F => k_asm); (case N => k_asm); (case a => rfl); (case b => rfl); k_whole); intro m' h' tk' F' N'; (try k_sweep)))
  (k_with "storeName" => (k_here; (try dsimp only); (with_reducible show wpAny _ _ (storeName _ _ (Value.int _ (HAdd.hAdd _ _))) _ _ _); k_dflt (refine' storeX_I ?F ?N ?_ ?a ?b; (case F => k_asm); (case N => k_asm); (case a => rfl); (case b => rfl); k_whole); intro t' m' h' tk' F' N'; (try k_sweep)))
  (k_with "storeName" => (k_here; (try dsimp only); (with_reducible show wpAny _ _ (storeName _ _ (Value.str _ (HAdd.hAdd _ _))) _ _ _); k_dflt (refine' storeX_S ?F ?N ?_ ?a ?b; (case F => k_asm); (case N => k_asm); (case a => rfl); (case b => rfl); k_whole); intro t' m' h' tk' F' N'; (try k_sweep)))
  (k_with "eval ListComp" => (k_here; k_dflt (refine ListComp_X (by k_asm) (by with_unfolding_all rfl) (by decide) (by rfl) (by decide) (by rfl) ?_ (by intro _; rfl))))
  (k_with "SrcX" => (k_here; k_dflt (first
  | (refine SrcX.bytes4 (by rfl) (by k_asm) (by k_asm) ?_; intro g')
  | (refine SrcX.range (by rfl) (by k_asm) (by k_asm) (by assumption) (by first | decide | rfl) (by first | rfl | decide) (by first | size_fits | exact Nat.le_of_ble_eq_true rfl) ?_; intro g'; lcg_lit))))
  (k_with "CompRest" => (with_unfolding_all (refine LCg.CompRest.succ ?_; intro v' I' oI' C' oC' D' m' h' tk' E' hv' hC' hx' F' N' off' ne'; obtain ⟨t9', hv9'⟩ := hv'; simp only [List.getD_cons_succ, List.getD_cons_zero] at hv9'; subst hv9'; (try simp only [LCg.Off3, and_true] at off'))))
  (k_with "CompEnd" => ((with_reducible rename LCg.Off3 _ _ _ _ => off9); (with_reducible rename News _ _ _ _ => N9); (with_reducible refine LCg.CompEnd.intro (by assumption) N9 _ (fun p hp => hp) off9 trivial ?_)))
  (k_with "subscriptTail" => (k_here; (first | (with_reducible refine r_figD ?_) | (with_reducible refine r_figM ?_))))
  (k_with "binaryOp Add str str" => (k_here; (with_reducible refine r_cat11 ?_); intro _ _))
  (k_with "call builtin:str.join" => (k_here; k_dflt (refine' r_join2222 ?q1 ?q2 ?_; (case q1 => k_asm); (case q2 => k_mem); k_whole); intro _ _))
  trivial
set_option maxHeartbeats 4000000 in
theorem figures_spec (w : World) (p : Program) (loose : List PySem.Str) (mean : ExcName → Option Value) (mg mb : PySem.Str → Option Value) (news : List (Addr × Obj)) (o0 o1 o2 o3 : UInt8) (t : Tok) :
    Clm w p loose mean mg mb news 210 2 [.bytes [o0, o1, o2, o3].toArray t] (fun t => .str ⟨[upFig (o0.toNat / 16), upFig (o0.toNat % 16), upFig (o1.toNat / 16), upFig (o1.toNat % 16), upFig (o2.toNat / 16), upFig (o2.toNat % 16), upFig (o3.toNat / 16), upFig (o3.toNat % 16)].toArray⟩ t) := by
  dsimp only [Clm]
  k_fill
  intros
  rename_i hret
  refine wpAny_call ?_
  k_dflt cell_enter
  k_steps
  all_goals (first | (refine hret _ _ _ ?e2 ?e3; (case e2 => k_asm); (case e3 => first | k_asm | (refine' cb_drop ?cbN ?cbS; (case cbN => assumption); (case cbS => k_sub)))) | cb_end hret | w_report)

end Mine
end
theorem Mine.rs_C6 : True := by (w_top off; k_with_none; trivial)

section
open PySem PySem.W PyProof.Rows
set_option Elab.async false
set_option maxRecDepth 100000
set_option linter.unusedVariables false
namespace Mine

theorem kwC7_1 : True := by
  k_with_none
  (k_with "storeName" => (k_here; (try dsimp only); k_dflt (refine' storeX_P ?F ?N ?_ ?a ?b; (case F => k_asm); (case N => k_asm); (case a => rfl); (case b => rfl); k_whole); intro m' h' tk' F' N'; (try k_sweep)))
  (k_with "storeName" => (k_here; (try dsimp only); (with_reducible show wpAny _ _ (storeName _ _ (Value.int _ (HAdd.hAdd _ _))) _ _ _); k_dflt (refine' storeX_I ?F ?N ?_ ?a ?b; (case F => k_asm); (case N => k_asm); (case a => rfl); (case b => rfl); k_whole); intro t' m' h' tk' F' N'; (try k_sweep)))
  (k_with "storeName" => (k_here; (try dsimp only); (with_reducible show wpAny _ _ (storeName _ _ (Value.str _ (HAdd.hAdd _ _))) _ _ _); k_dflt (refine' storeX_S ?F ?N ?_ ?a ?b; (case F => k_asm); (case N => k_asm); (case a => rfl); (case b => rfl); k_whole); intro t' m' h' tk' F' N'; (try k_sweep)))
  (k_with "eval ListComp" => (k_here; k_dflt (refine ListComp_X (by k_asm) (by with_unfolding_all rfl) (by decide) (by rfl) (by decide) (by rfl) ?_ (by intro _; rfl))))
  (k_with "SrcX" => (k_here; k_dflt (first
  | (refine SrcX.bytes4 (by rfl) (by k_asm) (by k_asm) ?_; intro g')
  | (refine SrcX.range (by rfl) (by k_asm) (by k_asm) (by assumption) (by first | decide | rfl) (by first | rfl | decide) (by first | size_fits | exact Nat.le_of_ble_eq_true rfl) ?_; intro g'; lcg_lit))))
  (k_with "CompRest" => (with_unfolding_all (refine LCg.CompRest.succ ?_; intro v' I' oI' C' oC' D' m' h' tk' E' hv' hC' hx' F' N' off' ne'; obtain ⟨t9', hv9'⟩ := hv'; (first | simp only [List.getD_cons_succ, List.getD_cons_zero] at hv9' | simp at hv9' | skip); subst hv9'; have off8 := off'; (try simp only [LCg.Off3, and_true] at off8))))
  (k_with "CompEnd" => ((with_reducible rename LCg.Off3 _ _ _ _ => off9); (with_reducible rename News _ _ _ _ => N9); (with_reducible refine LCg.CompEnd.intro (by assumption) N9 _ (fun p hp => hp) off9 trivial ?_)))
  trivial
section
variable {prog : Program} {w : World} {A : Around} {E : Value → Shared → Prop} {s : Shared} {Q : Value → Shared → Prop}
theorem r_mod43 {t u : Tok} (h : Q (.int 2 s.toks) { s with toks := s.toks + 1 }) : wpAny (model prog w) A (binaryOp .Mod (.int (-4) t) (.int 3 u)) Q E s := mod_int' (by decide) h
end
theorem all_ne {news : List (Addr × Obj)} {L d : Nat} (l : ∀ p ∈ news, p.1 < L) (h : L ≤ d) : ∀ p ∈ news, p.1 ≠ d := fun p hp => Nat.ne_of_lt (Nat.lt_of_lt_of_le (l p hp) h)

local macro_rules | `(tactic| k_all) => `(tactic| (refine' all_ne ?q1 ?q2; (case q1 => with_reducible assumption); (case q2 => omega)))

theorem kwC7_2 : True := by
  (k_with "call builtin:len" => (k_here; (with_reducible refine r_len4 ?_)))
  (k_with "exec For" => (k_here; (rename Fr _ _ _ _ => lF'); (with_unfolding_all refine' For_turns lF' ?_; k_whole)))
  (k_with "binaryOp Mod int int" => (k_here; (with_reducible refine r_mod43 ?_)))
  (k_with "call type:list" => (k_here; (with_reducible show wpAny _ _ (call (Value.type "list") [Value.bytes _ _]) _ _ _); k_dflt (refine' r_list4 ?q1 ?F ?N ?_; (case q1 => with_unfolding_all rfl); (case F => k_asm); (case N => k_asm); k_whole); intro D' t0' t1' t2' t3' c' h' tk' F' N' l1; (try k_lt l1); (try k_sweep)))
  trivial
set_option maxHeartbeats 4000000 in
theorem sixes_spec (w : World) (p : Program) (loose : List PySem.Str) (mean : ExcName → Option Value) (mg mb : PySem.Str → Option Value) (news : List (Addr × Obj)) (o0 o1 o2 o3 : UInt8) (t t2 : Tok) :
    Clm w p loose mean mg mb news 205 3 [.bytes [o0, o1, o2, o3].toArray t, .str (PySem.Str.ofString "+/") t2] (fun t => .str ⟨[b64Sign (o0.toNat / 4), b64Sign (o0.toNat % 4 * 16 + o1.toNat / 16), b64Sign (o1.toNat % 16 * 4 + o2.toNat / 64), b64Sign (o2.toNat % 64), b64Sign (o3.toNat / 4), b64Sign (o3.toNat % 4 * 16), 61, 61].toArray⟩ t) := by
  dsimp only [Clm]
  k_fill
  intros
  rename_i hret
  refine wpAny_call ?_
  k_dflt (refine' code_defC ?k1 ?k2 ?k3 ?k4 ?k5 ?kA ?kF ?kK ?k6 ?k7 ?k8 ?k9 ?kB ?kD ?_ ?c2 ?c3 ?c4; (case kA => exact rfl); (case kF => exact rfl); (case kK => assumption); (case k1 => k_asm); (case k2 => k_asm); (case k3 => k_asm); (case k4 => k_asm); (case k5 => k_asm); (case k6 => k_is); (case k7 => k_is); (case k8 => ktr_room); (case k9 => first | exact BindsTo.of_eq rfl | exact binds_K (by k_in) rfl (by k_is) rfl rfl rfl); (case kB => exact rfl); (case kD => decide +kernel); (case c2 => exact rfl); (case c3 => exact rfl); (case c4 => exact rfl); k_whole; intro g' L' h' tk' cells' FG' F' N' Y' B' X' T' l1; k_cells Y'; (refine' enter_clean F' N' l1 ?qc FG' B' X' T' ?_; (case qc => (simp only [List.forall_mem_cons, List.not_mem_nil, false_implies, implies_true, and_true]; omega))); clear F' N' l1 FG' B' X' T'; intro g' FG' F' N' B' X' T'; (try dsimp only); (try k_lift B'); (try k_fold))
  k_steps
  all_goals (unfold RN; intro N9; have e9 := sixes_eq o0 o1 o2 o3; dsimp only; rw [e9]; refine hret _ _ _ ?e2 N9; (case e2 => k_asm))

end Mine
end
theorem Mine.rs_C7 : True := by (w_top off; k_with_none; trivial)

section
open PySem PySem.W PyProof.Rows PySem.Calls PySem.Spec
set_option Elab.async false
set_option maxRecDepth 100000
set_option linter.unusedVariables false
namespace Mine
theorem lawLoop_eq : lawLoop = [lawSt 0, lawSt 1, lawSt 2, lawSt 3, lawSt 4, lawSt 5, lawSt 6, lawSt 7, lawSt 8, lawSt 9, lawSt 10, lawSt 11, lawSt 12] := by rfl
theorem u8sign {n : Nat} (h : n < 128) : n.toUInt8.toNat = n := by simp; omega
theorem strOk_of {l : List Nat} (h : ∀ y ∈ l, y < 128) : PyData.strOk ⟨l.toArray⟩ = true := by
  simp only [PyData.strOk, List.all_toArray, List.all_eq_true, decide_eq_true_eq]
  intro y hy
  have := h y hy
  omega
section
variable {M : Model} {A : Around} {E : Value → Shared → Prop} {s₀ : Shared} {Q : Flow → Shared → Prop} {env : Env} {st : Stmt} {rest : List Stmt}
theorem seq (h : wpAny M A (exec st env) (fun f s' => match f with | .next => wpAny M A (execs rest env) Q E s' | f => Q f s') E s₀) : wpAny M A (execs (st :: rest) env) Q E s₀ := by
  rw [execs_cons]
  exact wpAny_bind (wpAny_mono h (fun f s' h' => by cases f <;> first | exact h' | exact wpAny_pure h') fun _ _ e => e)
theorem seq_nil (h : Q .next s₀) : wpAny M A (execs [] env) Q E s₀ := wpAny_pure h
end
set_option maxHeartbeats 1000000 in
theorem turn_tail (w : World) (p : Program) (loose : List PySem.Str) (mean : ExcName → Option Value) (mg mb : PySem.Str → Option Value) (cs : Scope) (hcs : cs = lawScope) (o0 o1 o2 o3 : UInt8) (b : Bool) (tN tO tS tg : Tok) (wH : Option Value) :
    ∀ (dp un : Nat) (gd : Option (List Code)) (fa : Addr) (cd : Value) (A₀ : Around) (h₀ : Heap) (L : Addr) (m₁ : PySem.Str → Option Value) (s : Shared) (Q : Flow → Shared → Prop) (E : Value → Shared → Prop) (ps : Array Value) (c : Addr) (oc oN oO oS oH : Obj) (Dl : Addr) (oD : Obj) (I : Addr) (oI : Obj), Below A₀ h₀ [] h₀ → (hd.heap_39 w.params).In h₀ → Top p loose mean mg mb h₀ → FzAt w h₀ → dp + 20 < recursionLimit → un + 160 < cLine → Wrm ps c oc → LawAt c L Dl I → Fr h₀ L s.heap (fun y => if y = PySem.Str.ofString "great" then some (.str ⟨[upFig (o0.toNat / 16), upFig (o0.toNat % 16), upFig (o1.toNat / 16), upFig (o1.toNat % 16), upFig (o2.toNat / 16), upFig (o2.toNat % 16), upFig (o3.toNat / 16), upFig (o3.toNat % 16)].toArray⟩ tg) else m₁ y) → News h₀ L s.heap [(64, tabObj ps), (c, oc), (L + 1, oN), (L + 1 + 1, oO), (L + 1 + 1 + 1, oS), (L + 1 + 1 + 1 + 1, oH), (Dl, oD), (I, oI)] → oN.data = .cell (some (.int ((((o0.toNat * 256 + o1.toNat) * 256 + o2.toNat) * 256 + o3.toNat : Nat) : Int) tN)) → oO.data = .cell (some (.bytes [o0, o1, o2, o3].toArray tO)) → oS.data = .cell (some (.str ⟨[sgn b (o0.toNat / 16), sgn b (o0.toNat % 16), sgn b (o1.toNat / 16), sgn b (o1.toNat % 16), sgn b (o2.toNat / 16), sgn b (o2.toNat % 16), sgn b (o3.toNat / 16), sgn b (o3.toNat % 16)].toArray⟩ tS)) → oH.data = .cell wH →
    (∀ h' tk' ps' c' oc' oN' oO' oS' oH' m' wN wO wS wH, Fr h₀ L h' m' → News h₀ L h' [(64, tabObj ps'), (c', oc'), (L + 1, oN'), (L + 1 + 1, oO'), (L + 1 + 1 + 1, oS'), (L + 1 + 1 + 1 + 1, oH'), (Dl, oD), (I, oI)] → Wrm ps' c' oc' → LawAt c' L Dl I → oN'.data = .cell wN → oO'.data = .cell wO → oS'.data = .cell wS → oH'.data = .cell wH → Q .next { s with heap := h', toks := tk' }) →
    wpAny (model PySem.Challenge.rw_qh0008_01.row.prog w) (ktrTop dp un gd (PySem.Str.ofString "law") cs L fa cd (cellsFrom (L + 1) cs.names []) []) (execs [lawSt 4, lawSt 5, lawSt 6, lawSt 7, lawSt 8, lawSt 9, lawSt 10, lawSt 11, lawSt 12] (envX (PySem.Str.ofString "law") cs L fa cd (cellsFrom (L + 1) cs.names []))) Q E s := by
  intro dp un gd fa cd A₀ h₀ L m₁ s Q E ps c oc oN oO oS oH Dl oD I oI B X T Z hd9 hu9 W lw F N dN dO dS dH ret
  have h0 := o0.toNat_lt; have h1 := o1.toNat_lt; have h2 := o2.toNat_lt; have h3 := o3.toNat_lt
  refine seq (S5 w p loose mean mg mb cs hcs (sgn b (o0.toNat / 16)) (sgn b (o0.toNat % 16)) (sgn b (o1.toNat / 16)) (sgn b (o1.toNat % 16)) (sgn b (o2.toNat / 16)) (sgn b (o2.toNat % 16)) (sgn b (o3.toNat / 16)) (sgn b (o3.toNat % 16)) (upFig (o0.toNat / 16)) (upFig (o0.toNat % 16)) (upFig (o1.toNat / 16)) (upFig (o1.toNat % 16)) (upFig (o2.toNat / 16)) (upFig (o2.toNat % 16)) (upFig (o3.toNat / 16)) (upFig (o3.toNat % 16)) (b64Sign (o0.toNat / 4)) (b64Sign (o0.toNat % 4 * 16 + o1.toNat / 16)) (b64Sign (o1.toNat % 16 * 4 + o2.toNat / 64)) (b64Sign (o2.toNat % 64)) (b64Sign (o3.toNat / 4)) (b64Sign (o3.toNat % 4 * 16)) (61) (61) (Builtin.Bytes.toUpper (Builtin.Bytes.hexDigit (o0.toNat / 16)).toUInt8) (Builtin.Bytes.toUpper (Builtin.Bytes.hexDigit (o0.toNat % 16)).toUInt8) (Builtin.Bytes.toUpper (Builtin.Bytes.hexDigit (o1.toNat / 16)).toUInt8) (Builtin.Bytes.toUpper (Builtin.Bytes.hexDigit (o1.toNat % 16)).toUInt8) (Builtin.Bytes.toUpper (Builtin.Bytes.hexDigit (o2.toNat / 16)).toUInt8) (Builtin.Bytes.toUpper (Builtin.Bytes.hexDigit (o2.toNat % 16)).toUInt8) (Builtin.Bytes.toUpper (Builtin.Bytes.hexDigit (o3.toNat / 16)).toUInt8) (Builtin.Bytes.toUpper (Builtin.Bytes.hexDigit (o3.toNat % 16)).toUInt8) ((b64Sign (o0.toNat / 4)).toUInt8) ((b64Sign (o0.toNat % 4 * 16 + o1.toNat / 16)).toUInt8) ((b64Sign (o1.toNat % 16 * 4 + o2.toNat / 64)).toUInt8) ((b64Sign (o2.toNat % 64)).toUInt8) ((b64Sign (o3.toNat / 4)).toUInt8) ((b64Sign (o3.toNat % 4 * 16)).toUInt8) (61) (61) o0 o1 o2 o3 tS tO tg dp un gd fa cd A₀ h₀ L _ _ _ E ps c oc oN oO oS oH Dl oD I oI B X T Z hd9 hu9 W lw F N dS dO (b16d_at w p loose mean mg mb o0 o1 o2 o3 b) (fun news t => b16enc_spec w p loose mean mg mb news o0 o1 o2 o3 t) (enc_at w p loose mean mg mb o0 o1 o2 o3) (fun news t t2 => sixes_spec w p loose mean mg mb news o0 o1 o2 o3 t t2) (hx_up (by omega)) (hx_up (by omega)) (hx_up (by omega)) (hx_up (by omega)) (hx_up (by omega)) (hx_up (by omega)) (hx_up (by omega)) (hx_up (by omega)) (u8sign (bs_lt _)) (u8sign (bs_lt _)) (u8sign (bs_lt _)) (u8sign (bs_lt _)) (u8sign (bs_lt _)) (u8sign (bs_lt _)) rfl rfl (by simp only [List.forall_mem_cons, List.not_mem_nil, false_implies, implies_true, and_true]; exact ⟨(by rw [hx_up (by omega)]; exact up_lt (by omega)), (by rw [hx_up (by omega)]; exact up_lt (by omega)), (by rw [hx_up (by omega)]; exact up_lt (by omega)), (by rw [hx_up (by omega)]; exact up_lt (by omega)), (by rw [hx_up (by omega)]; exact up_lt (by omega)), (by rw [hx_up (by omega)]; exact up_lt (by omega)), (by rw [hx_up (by omega)]; exact up_lt (by omega)), (by rw [hx_up (by omega)]; exact up_lt (by omega))⟩) (by simp only [List.forall_mem_cons, List.not_mem_nil, false_implies, implies_true, and_true]; exact ⟨(by rw [u8sign (bs_lt _)]; exact bs_lt _), (by rw [u8sign (bs_lt _)]; exact bs_lt _), (by rw [u8sign (bs_lt _)]; exact bs_lt _), (by rw [u8sign (bs_lt _)]; exact bs_lt _), (by rw [u8sign (bs_lt _)]; exact bs_lt _), (by rw [u8sign (bs_lt _)]; exact bs_lt _), by decide, by decide⟩) (strOk_of (by simp only [List.forall_mem_cons, List.not_mem_nil, false_implies, implies_true, and_true]; exact ⟨up_lt (by omega), up_lt (by omega), up_lt (by omega), up_lt (by omega), up_lt (by omega), up_lt (by omega), up_lt (by omega), up_lt (by omega)⟩)) (strOk_of (by simp only [List.forall_mem_cons, List.not_mem_nil, false_implies, implies_true, and_true]; exact ⟨bs_lt _, bs_lt _, bs_lt _, bs_lt _, bs_lt _, bs_lt _, by decide, by decide⟩)) (fun h5 k5 F N => ?_))
  refine seq (S6 w p loose mean mg mb cs hcs (b64Sign (o0.toNat / 4)) (b64Sign (o0.toNat % 4 * 16 + o1.toNat / 16)) (b64Sign (o1.toNat % 16 * 4 + o2.toNat / 64)) (b64Sign (o2.toNat % 64)) (b64Sign (o3.toNat / 4)) (b64Sign (o3.toNat % 4 * 16)) (61) (61) o0 o1 o2 o3 tO dp un gd fa cd A₀ h₀ L _ _ _ E ps c oc oN oO oS oH Dl oD I oI B X T Z hd9 hu9 W lw F N dO (fun news t t2 => sixes_spec w p loose mean mg mb news o0 o1 o2 o3 t t2) (dec_at w p loose mean mg mb o0 o1 o2 o3) (fun h6 k6 F N => ?_))
  refine seq (S7 w p loose mean mg mb cs hcs (sgn b (o0.toNat / 16)) (sgn b (o0.toNat % 16)) (sgn b (o1.toNat / 16)) (sgn b (o1.toNat % 16)) (sgn b (o2.toNat / 16)) (sgn b (o2.toNat % 16)) (sgn b (o3.toNat / 16)) (sgn b (o3.toNat % 16)) o0 o1 o2 o3 tS tO dp un gd fa cd A₀ h₀ L _ _ _ E ps c oc oN oO oS oH Dl oD I oI B X T Z hd9 hu9 W lw F N dS dO (q2_0 w p loose mean mg mb o0 o1 o2 o3 b) (q2_1 w p loose mean mg mb o0 o1 o2 o3 b) (q2_2 w p loose mean mg mb o0 o1 o2 o3 b) (q2_3 w p loose mean mg mb o0 o1 o2 o3 b) (fun h7 k7 F N => ?_))
  refine seq (S8 w p loose mean mg mb cs hcs ((((o0.toNat * 256 + o1.toNat) * 256 + o2.toNat) * 256 + o3.toNat : Nat) : Int) ((o0.toNat * 256 + o1.toNat : Nat) : Int) ((o2.toNat * 256 + o3.toNat : Nat) : Int) tN wH (by rw [Int.fdiv_eq_ediv_of_nonneg _ (by decide)]; omega) (by rw [Int.fmod_eq_emod_of_nonneg _ (by decide)]; omega) dp un gd fa cd A₀ h₀ L _ _ _ E ps c oc oN oO oS oH Dl oD I oI B X T Z hd9 hu9 W lw F N dN dH (fun h8 k8 oH8 Hd ta tb nH F N dH8 g1 g2 => ?_))
  refine seq (S9 w p loose mean mg mb cs hcs (sgn b (o0.toNat / 16)) (sgn b (o0.toNat % 16)) (sgn b (o1.toNat / 16)) (sgn b (o1.toNat % 16)) (sgn b (o2.toNat / 16)) (sgn b (o2.toNat % 16)) (sgn b (o3.toNat / 16)) (sgn b (o3.toNat % 16)) ((o0.toNat * 256 + o1.toNat : Nat) : Int) ((o2.toNat * 256 + o3.toNat : Nat) : Int) ta tb tS nH Hd _ _ dp un gd fa cd A₀ h₀ L _ _ _ E ps c oc oN oO oS oH8 Dl oD I oI B X T Z hd9 hu9 W lw F N dS dH8 ((lawAt_off lw).more ⟨Nat.ne_of_gt g1, Nat.ne_of_gt g2⟩) (q4_0 w p loose mean mg mb o0 o1 o2 o3 b) (q4_1 w p loose mean mg mb o0 o1 o2 o3 b) (fun h9 k9 ps9 c9 oc9 F N W lw => ?_))
  refine seq (S10 w p loose mean mg mb cs hcs (sgn b (o0.toNat / 16)) (sgn b (o0.toNat % 16)) (sgn b (o1.toNat / 16)) (sgn b (o1.toNat % 16)) (sgn b (o2.toNat / 16)) (sgn b (o2.toNat % 16)) (sgn b (o3.toNat / 16)) (sgn b (o3.toNat % 16)) ((((o0.toNat * 256 + o1.toNat) * 256 + o2.toNat) * 256 + o3.toNat : Nat) : Int) tN tS _ dp un gd fa cd A₀ h₀ L _ _ _ E ps9 c9 oc9 oN oO oS oH8 Dl oD I oI B X T Z hd9 hu9 W lw F N dS dN (q8 w p loose mean mg mb o0 o1 o2 o3 b) (fun h10 k10 psA cA ocA F N W lw => ?_))
  refine seq (S11 w p loose mean mg mb cs hcs ((((o0.toNat * 256 + o1.toNat) * 256 + o2.toNat) * 256 + o3.toNat : Nat) : Int) tN dp un gd fa cd A₀ h₀ L _ _ _ E psA cA ocA oN oO oS oH8 Dl oD I oI B X T Z hd9 hu9 W lw F N dN (by omega) (fun h11 k11 F N => ?_))
  refine seq (S12 w p loose mean mg mb cs hcs (sgn b (o0.toNat / 16)) (sgn b (o0.toNat % 16)) (sgn b (o1.toNat / 16)) (sgn b (o1.toNat % 16)) (sgn b (o2.toNat / 16)) (sgn b (o2.toNat % 16)) (sgn b (o3.toNat / 16)) (sgn b (o3.toNat % 16)) tS (BadT w p loose mean mg mb) dp un gd fa cd A₀ h₀ L _ _ _ E psA cA ocA oN oO oS oH8 Dl oD I oI B X T Z hd9 hu9 W lw F N dS (bad7 w p loose mean mg mb o0 o1 o2 o3 b) (fun c hc => ⟨bad0 w p loose mean mg mb o0 o1 o2 o3 b c hc, bad1 w p loose mean mg mb o0 o1 o2 o3 b c hc, bad3 w p loose mean mg mb o0 o1 o2 o3 b c hc⟩) (fun h12 k12 Ds ys F N g1 g2 hl hy => ?_))
  refine seq (S13 w p loose mean mg mb cs hcs ys Ds dp un gd fa cd A₀ h₀ L _ _ _ E psA cA ocA oN oO oS oH8 Dl oD I oI B X T Z hd9 hu9 W lw F N ((lawAt_off lw).more ⟨Nat.ne_of_gt g1, Nat.ne_of_gt g2⟩) hl hy (fun h13 k13 psB cB ocB F N W lw => ?_))
  exact seq_nil (ret _ _ _ _ _ _ _ _ _ _ _ _ _ _ F N W lw dN dO dS dH8)

theorem oct_facts (v : Int) (h0 : 0 ≤ v) (h1 : v < 4294967296) : ∃ o0 o1 o2 o3 : UInt8, ((v.fdiv (256 ^ Int.toNat 3)).fmod 256).toNat.toUInt8 = o0 ∧ ((v.fdiv (256 ^ Int.toNat 2)).fmod 256).toNat.toUInt8 = o1 ∧ ((v.fdiv (256 ^ Int.toNat 1)).fmod 256).toNat.toUInt8 = o2 ∧ ((v.fdiv (256 ^ Int.toNat 0)).fmod 256).toNat.toUInt8 = o3 ∧ v = ((((o0.toNat * 256 + o1.toNat) * 256 + o2.toNat) * 256 + o3.toNat : Nat) : Int) := by
  obtain ⟨n, rfl⟩ := Int.eq_ofNat_of_zero_le h0
  have e : ∀ k : Nat, (((n : Int).fdiv ((k : Nat) : Int)).fmod 256).toNat.toUInt8.toNat = n / k % 256 := fun k => by
    rw [Int.fdiv_eq_ediv_of_nonneg _ (by omega), Int.fmod_eq_emod_of_nonneg _ (by decide)]
    have : ((n : Int) / (k : Int) % 256).toNat = n / k % 256 := by
      rw [show ((n : Int) / (k : Int) % 256) = ((n / k % 256 : Nat) : Int) by push_cast; rfl, Int.toNat_natCast]
    rw [this]
    simp
  refine ⟨_, _, _, _, rfl, rfl, rfl, rfl, ?_⟩
  have e3 := e 16777216; have e2 := e 65536; have e1 := e 256; have e0 := e 1
  rw [show ((256 : Int) ^ Int.toNat 3) = ((16777216 : Nat) : Int) from rfl, show ((256 : Int) ^ Int.toNat 2) = ((65536 : Nat) : Int) from rfl, show ((256 : Int) ^ Int.toNat 1) = ((256 : Nat) : Int) from rfl, show ((256 : Int) ^ Int.toNat 0) = ((1 : Nat) : Int) from rfl, e3, e2, e1, e0]
  omega
set_option maxHeartbeats 1000000 in
theorem turn (w : World) (p : Program) (loose : List PySem.Str) (mean : ExcName → Option Value) (mg mb : PySem.Str → Option Value) (cs : Scope) (hcs : cs = lawScope) (x : Int) (tx : Tok) (wN wO wS wH : Option Value) :
    ∀ (dp un : Nat) (gd : Option (List Code)) (fa : Addr) (cd : Value) (A₀ : Around) (h₀ : Heap) (L : Addr) (m₁ : PySem.Str → Option Value) (s : Shared) (Q : Flow → Shared → Prop) (E : Value → Shared → Prop) (ps : Array Value) (c : Addr) (oc oN oO oS oH : Obj) (Dl : Addr) (oD : Obj) (I : Addr) (oI : Obj), Below A₀ h₀ [] h₀ → (hd.heap_39 w.params).In h₀ → Top p loose mean mg mb h₀ → FzAt w h₀ → dp + 20 < recursionLimit → un + 160 < cLine → Wrm ps c oc → LawAt c L Dl I → Fr h₀ L s.heap (fun y => if y = PySem.Str.ofString "x" then some (.int x tx) else m₁ y) → News h₀ L s.heap [(64, tabObj ps), (c, oc), (L + 1, oN), (L + 1 + 1, oO), (L + 1 + 1 + 1, oS), (L + 1 + 1 + 1 + 1, oH), (Dl, oD), (I, oI)] → oN.data = .cell wN → oO.data = .cell wO → oS.data = .cell wS → oH.data = .cell wH →
    (∀ h' tk' ps' c' oc' oN' oO' oS' oH' m' wN wO wS wH, Fr h₀ L h' m' → News h₀ L h' [(64, tabObj ps'), (c', oc'), (L + 1, oN'), (L + 1 + 1, oO'), (L + 1 + 1 + 1, oS'), (L + 1 + 1 + 1 + 1, oH'), (Dl, oD), (I, oI)] → Wrm ps' c' oc' → LawAt c' L Dl I → oN'.data = .cell wN → oO'.data = .cell wO → oS'.data = .cell wS → oH'.data = .cell wH → Q .next { s with heap := h', toks := tk' }) →
    wpAny (model PySem.Challenge.rw_qh0008_01.row.prog w) (ktrTop dp un gd (PySem.Str.ofString "law") cs L fa cd (cellsFrom (L + 1) cs.names []) []) (execs lawLoop (envX (PySem.Str.ofString "law") cs L fa cd (cellsFrom (L + 1) cs.names []))) Q E s := by
  intro dp un gd fa cd A₀ h₀ L m₁ s Q E ps c oc oN oO oS oH Dl oD I oI B X T Z hd9 hu9 W lw F N dN dO dS dH ret
  rw [lawLoop_eq]
  have v0 : 0 ≤ (x.fmod (2 ^ Int.toNat 32)) := Int.fmod_nonneg_of_pos _ (by decide)
  have v1 : (x.fmod (2 ^ Int.toNat 32)) < 4294967296 := Int.fmod_lt_of_pos _ (by decide)
  obtain ⟨o0, o1, o2, o3, b0, b1, b2, b3, hv⟩ := oct_facts _ v0 v1
  have h0 := o0.toNat_lt; have h1 := o1.toNat_lt; have h2 := o2.toNat_lt; have h3 := o3.toNat_lt
  have hx : ∀ y ∈ [upFig (o0.toNat / 16), upFig (o0.toNat % 16), upFig (o1.toNat / 16), upFig (o1.toNat % 16), upFig (o2.toNat / 16), upFig (o2.toNat % 16), upFig (o3.toNat / 16), upFig (o3.toNat % 16)], y < 128 := (by simp only [List.forall_mem_cons, List.not_mem_nil, false_implies, implies_true, and_true]; exact ⟨up_lt (by omega), up_lt (by omega), up_lt (by omega), up_lt (by omega), up_lt (by omega), up_lt (by omega), up_lt (by omega), up_lt (by omega)⟩)
  refine seq (S1 w p loose mean mg mb cs hcs x tx wN dp un gd fa cd A₀ h₀ L _ _ _ E ps c oc oN oO oS oH Dl oD I oI B X T Z hd9 hu9 W lw F N dN (fun g1 k1 oN1 tN F N dN => ?_))
  refine seq (S2 w p loose mean mg mb cs hcs (x.fmod (2 ^ Int.toNat 32)) tN wO o0 o1 o2 o3 b0 b1 b2 b3 dp un gd fa cd A₀ h₀ L _ _ _ E ps c oc oN1 oO oS oH Dl oD I oI B X T Z hd9 hu9 W lw F N dN dO (fun g2 k2 oO1 tO F N dO => ?_))
  refine seq (S3 w p loose mean mg mb cs hcs o0 o1 o2 o3 (upFig (o0.toNat / 16)) (upFig (o0.toNat % 16)) (upFig (o1.toNat / 16)) (upFig (o1.toNat % 16)) (upFig (o2.toNat / 16)) (upFig (o2.toNat % 16)) (upFig (o3.toNat / 16)) (upFig (o3.toNat % 16)) tO dp un gd fa cd A₀ h₀ L _ _ _ E ps c oc oN1 oO1 oS oH Dl oD I oI B X T Z hd9 hu9 W lw F N dO (fun news t => figures_spec w p loose mean mg mb news o0 o1 o2 o3 t) (fun g3 k3 tg F N => ?_))
  rw [hv] at dN
  by_cases hodd : x.fmod 2 = 1
  · refine seq (S4a w p loose mean mg mb cs hcs (upFig (o0.toNat / 16)) (upFig (o0.toNat % 16)) (upFig (o1.toNat / 16)) (upFig (o1.toNat % 16)) (upFig (o2.toNat / 16)) (upFig (o2.toNat % 16)) (upFig (o3.toNat / 16)) (upFig (o3.toNat % 16)) x tg tx wS dp un gd fa cd A₀ h₀ L _ _ _ E ps c oc oN1 oO1 oS oH Dl oD I oI B X T Z hd9 hu9 W lw F N dS hx hodd (fun g4 k4 oS1 tS F N dS => ?_))
    exact turn_tail w p loose mean mg mb cs hcs o0 o1 o2 o3 true tN tO tS tg wH dp un gd fa cd A₀ h₀ L _ _ _ E ps c oc oN1 oO1 oS1 oH Dl oD I oI B X T Z hd9 hu9 W lw F N dN dO dS dH ret
  · refine seq (S4b w p loose mean mg mb cs hcs (upFig (o0.toNat / 16)) (upFig (o0.toNat % 16)) (upFig (o1.toNat / 16)) (upFig (o1.toNat % 16)) (upFig (o2.toNat / 16)) (upFig (o2.toNat % 16)) (upFig (o3.toNat / 16)) (upFig (o3.toNat % 16)) x tg tx wS dp un gd fa cd A₀ h₀ L _ _ _ E ps c oc oN1 oO1 oS oH Dl oD I oI B X T Z hd9 hu9 W lw F N dS hx hodd (fun g4 k4 oS1 tS F N dS => ?_))
    exact turn_tail w p loose mean mg mb cs hcs o0 o1 o2 o3 false tN tO tS tg wH dp un gd fa cd A₀ h₀ L _ _ _ E ps c oc oN1 oO1 oS1 oH Dl oD I oI B X T Z hd9 hu9 W lw F N dN dO dS dH ret

end Mine
end
theorem Mine.rs_M5 : True := by (w_top off; k_with_none; trivial)

section
open PySem PySem.W PyProof.Rows PySem.Calls PySem.Spec
set_option Elab.async false
set_option maxRecDepth 100000
set_option linter.unusedVariables false
namespace Mine
def Apart (c L Dl : Addr) : Prop := @Ne Nat c (L + 1) ∧ @Ne Nat c (L + 1 + 1) ∧ @Ne Nat c (L + 1 + 1 + 1) ∧ @Ne Nat c (L + 1 + 1 + 1 + 1) ∧ @Ne Nat c Dl
/-- what holds between the turns -/
def Between (L Dl : Addr) (news : List (Addr × Obj)) : Prop := ∃ ps c oc oN oO oS oH wN wO wS wH, news = [(64, tabObj ps), (c, oc), (L + 1, oN), (L + 1 + 1, oO), (L + 1 + 1 + 1, oS), (L + 1 + 1 + 1 + 1, oH)] ∧ Wrm ps c oc ∧ Apart c L Dl ∧ oN.data = .cell wN ∧ oO.data = .cell wO ∧ oS.data = .cell wS ∧ oH.data = .cell wH
theorem law_loop (w : World) (p : Program) (loose : List PySem.Str) (mean : ExcName → Option Value) (mg mb : PySem.Str → Option Value) (cs : Scope) (hcs : cs = lawScope) (dp un : Nat) (gd : Option (List Code)) (fa : Addr) (cd : Value) (A₀ : Around) (h₀ : Heap) (L Dl : Addr) (m : PySem.Str → Option Value) (s : Shared) (Q : Flow → Shared → Prop) (E : Value → Shared → Prop) (ws : List Value) (ns : List Int) (kk : Nat) (news : List (Addr × Obj))
    (B : Below A₀ h₀ [] h₀) (X : (hd.heap_39 w.params).In h₀) (T : Top p loose mean mg mb h₀) (Z : FzAt w h₀) (hd9 : dp + 20 < recursionLimit) (hu9 : un + 160 < cLine)
    (F : Fr h₀ L s.heap m) (ND : News h₀ L s.heap [(Dl, listOf ws.toArray kk)]) (N : News h₀ L s.heap news) (hb : Between L Dl news) (hi : IntsAre ws ns) (l0 : @LT.lt Nat _ 64 L) (l1 : @LT.lt Nat _ (L + 1 + 1 + 1 + 1) Dl)
    (done : ∀ h' tk m' news', Fr h₀ L h' m' → News h₀ L h' news' → Between L Dl news' → Q .next { s with heap := h', toks := tk }) :
    wpAny (model PySem.Challenge.rw_qh0008_01.row.prog w) (ktrTop dp un gd (PySem.Str.ofString "law") cs L fa cd (cellsFrom (L + 1) cs.names []) []) (pyIter (.ref Dl)) (fun it s₂ => LoopAtU PySem.Challenge.rw_qh0008_01.row.prog w (ktrTop dp un gd (PySem.Str.ofString "law") cs L fa cd (cellsFrom (L + 1) cs.names []) []) h₀ (envX (PySem.Str.ofString "law") cs L fa cd (cellsFrom (L + 1) cs.names [])) (PySem.Str.ofString "x") lawLoop Q E it s₂) E s := by
  have hD := ND (Dl, listOf ws.toArray kk) (.head _)
  have hl : s.heap.IsList Dl ws.toArray := ⟨_, hD.1, rfl, _, rfl⟩
  have hlt : Dl < s.heap.objs.size := Heap.lt_size hD.1
  have hne : Dl ≠ s.heap.objs.size := Nat.ne_of_lt hlt
  refine wpAny_pyIter_list hl ?_
  generalize hI : s.heap.objs.size = I at *
  have up : ∀ b o, s.heap.get? b = some o → (s.heap.push { cls := .type "list_iterator", data := .fields #[.ref Dl, .int 0 0] }).get? b = some o := fun b o e => Heap.get?_push_of_some _ e
  have hI₀ : h₀.get? I = none := by
    cases e : h₀.get? I with
    | none => rfl
    | some o => exact absurd (Heap.lt_size (F.keep _ _ e)) (by rw [hI]; exact Nat.lt_irrefl _)
  have hLI : L ≠ I := by rw [← hI]; exact Nat.ne_of_lt F.ns.lt
  have W := Walks.list (prog := PySem.Challenge.rw_qh0008_01.row.prog) (w := w) (A := (ktrTop dp un gd (PySem.Str.ofString "law") cs L fa cd (cellsFrom (L + 1) cs.names []) [])) rfl I Dl hne ws.toArray
  refine ⟨I, _, _, _, _, _, m, news, fun _ _ news => Between L Dl news, rfl, W, ?_, ?_, ?_, ⟨⟨_, hI ▸ Heap.get?_push_size _ rfl, rfl, rfl⟩, hl.push _⟩, F.keeps up, N.grown up, hb, ?_, ?_⟩
  · intro hm
    rcases List.mem_cons.mp hm with e | hm
    · exact hLI e
    · exact hD.2.1 (List.mem_singleton.mp hm).symm
  · intro b hb'
    rw [List.mem_singleton.mp hb']
    exact hI₀
  · intro q hq hm
    rw [List.mem_singleton] at hm
    exact absurd (Heap.lt_size (N q hq).1) (by rw [hm, hI]; exact Nat.lt_irrefl _)
  · intro i v m₁ news₁ s₁ own hin hP hJ hoff hown hget hall hst F₁ N₁
    obtain ⟨ps, c, oc, oN, oO, oS, oH, wN, wO, wS, wH, rfl, hW, ⟨a1, a2, a3, a4, a5⟩, dN, dO, dS, dH⟩ := hJ
    obtain ⟨oI, eI, _⟩ := id hst.1
    obtain ⟨oD, eD, _⟩ := id hst.2
    have mI : (I, oI) ∈ own := hall I (.head _) hI₀ oI eI
    have mD : (Dl, oD) ∈ own := hall Dl (.tail _ (.head _)) hD.2.2 oD eD
    have hP' : ws[i]? = some v := by simpa using hP
    have hin' : i < ns.length := by
      have h1 : i < ws.length := by
        have := List.getElem?_eq_some_iff.mp hP'
        exact this.1
      rwa [hi.length] at h1
    obtain ⟨t, ht⟩ := hi.get i ns[i] (by simp [hin'])
    rw [ht] at hP'
    cases hP'
    have cI : @Ne Nat c I := fun q => hoff (c, oc) (.tail _ (.head _)) (List.mem_singleton.mpr q)
    have hN : News h₀ L s₁.heap [(64, tabObj ps), (c, oc), (L + 1, oN), (L + 1 + 1, oO), (L + 1 + 1 + 1, oS), (L + 1 + 1 + 1 + 1, oH), (Dl, oD), (I, oI)] := fun q hq => N₁ q (by
      simp only [List.mem_cons, List.not_mem_nil, or_false, List.mem_append] at hq ⊢
      rcases hq with rfl | rfl | rfl | rfl | rfl | rfl | rfl | rfl
      · exact .inr (.inl rfl)
      · exact .inr (.inr (.inl rfl))
      · exact .inr (.inr (.inr (.inl rfl)))
      · exact .inr (.inr (.inr (.inr (.inl rfl))))
      · exact .inr (.inr (.inr (.inr (.inr (.inl rfl)))))
      · exact .inr (.inr (.inr (.inr (.inr (.inr rfl)))))
      · exact .inl mD
      · exact .inl mI)
    refine turn w p loose mean mg mb cs hcs ns[i] t wN wO wS wH dp un gd fa cd A₀ h₀ L m₁ s₁ _ E ps c oc oN oO oS oH Dl oD I oI B X T Z hd9 hu9 hW ⟨l0, l1, hlt, a1, a2, a3, a4, a5, cI⟩ F₁ hN dN dO dS dH ?_
    intro h' tk' ps' c' oc' oN' oO' oS' oH' m' wN' wO' wS' wH' F' N' W' lw' dN' dO' dS' dH'
    obtain ⟨_, _, _, b1, b2, b3, b4, b5, b6⟩ := lw'
    refine LoopStepU.intro (news₂ := [(64, tabObj ps'), (c', oc'), (L + 1, oN'), (L + 1 + 1, oO'), (L + 1 + 1 + 1, oS'), (L + 1 + 1 + 1 + 1, oH')]) F' (fun q hq => ?_) (fun q hq hm => ?_) ⟨ps', c', oc', oN', oO', oS', oH', wN', wO', wS', wH', rfl, W', ⟨b1, b2, b3, b4, b5⟩, dN', dO', dS', dH'⟩
    · rcases List.mem_append.mp hq with hq | hq
      · have g := hget q hq
        obtain ⟨qa, qo⟩ := q
        rcases List.mem_cons.mp (hown _ hq) with e | e
        · dsimp only at e g
          subst e
          rw [eI] at g; cases g
          exact N' _ (by simp)
        · have e' := List.mem_singleton.mp e
          dsimp only at e' g
          subst e'
          rw [eD] at g; cases g
          exact N' _ (by simp)
      · refine N' q ?_
        simp only [List.mem_cons, List.not_mem_nil, or_false] at hq ⊢
        rcases hq with rfl | rfl | rfl | rfl | rfl | rfl <;> simp
    · have hm' := List.mem_singleton.mp hm
      have hlt' : @LT.lt Nat _ Dl I := hlt
      simp only [List.mem_cons, List.not_mem_nil, or_false] at hq
      rcases hq with rfl | rfl | rfl | rfl | rfl | rfl
      · exact absurd hm' (neN (by omega))
      · exact b6 hm'
      · exact absurd hm' (neN (by omega))
      · exact absurd hm' (neN (by omega))
      · exact absurd hm' (neN (by omega))
      · exact absurd hm' (neN (by omega))
  · intro h' tk m' news' F' N' _ hJ
    exact done h' tk m' news' F' N' hJ
end Mine
end
theorem Mine.rs_M6 : True := by (w_top off; k_with_none; trivial)

section
open PySem PySem.W PyProof.Rows PySem.Calls PySem.Spec
set_option Elab.async false
set_option maxRecDepth 100000
set_option linter.unusedVariables false
namespace Mine
noncomputable def lawBody : List Stmt := match lawRec with | some d => d.body | none => []
set_option maxHeartbeats 4000000 in
theorem law_body (w : World) (p : Program) (loose : List PySem.Str) (mean : ExcName → Option Value) (mg mb : PySem.Str → Option Value) (cs : Scope) (hcs : cs = lawScope) (bd : List Stmt) (hbd : bd = lawBody) :
    ∀ (dp un : Nat) (gd : Option (List Code)) (fa : Addr) (cd : Value) (A₀ : Around) (h₀ : Heap) (L : Addr) (m₁ : PySem.Str → Option Value) (s : Shared) (Q : Flow → Shared → Prop) (E : Value → Shared → Prop) (l : Addr) (ws : List Value) (ns : List Int) (oN oO oS oH : Obj) (wN wO wS wH : Option Value),
    Below A₀ h₀ [] h₀ → (hd.heap_39 w.params).In h₀ → Top p loose mean mg mb h₀ → FzAt w h₀ → dp + 20 < recursionLimit → un + 160 < cLine → @LT.lt Nat _ 64 L →
    Fr h₀ L s.heap (fun y => if y = PySem.Str.ofString "script" then some (.ref l) else m₁ y) → News h₀ L s.heap [(64, tabObj #[]), (L + 1, oN), (L + 1 + 1, oO), (L + 1 + 1 + 1, oS), (L + 1 + 1 + 1 + 1, oH)] →
    oN.data = .cell wN → oO.data = .cell wO → oS.data = .cell wS → oH.data = .cell wH →
    h₀.IsList l ws.toArray → IntsAre ws ns → ws.length ≤ 63 →
    PassesOwn (model PySem.Challenge.rw_qh0008_01.row.prog w) (ktrTop dp un gd (PySem.Str.ofString "law") cs L fa cd (cellsFrom (L + 1) cs.names []) []) (envX (PySem.Str.ofString "law") cs L fa cd (cellsFrom (L + 1) cs.names [])) E →
    (∀ h' tk m' news' ps', Fr h₀ L h' m' → News h₀ L h' news' → (64, tabObj ps') ∈ news' → Q (.ret (.bool true)) { s with heap := h', toks := tk }) →
    wpAny (model PySem.Challenge.rw_qh0008_01.row.prog w) (ktrTop dp un gd (PySem.Str.ofString "law") cs L fa cd (cellsFrom (L + 1) cs.names []) []) (execs bd (envX (PySem.Str.ofString "law") cs L fa cd (cellsFrom (L + 1) cs.names []))) Q E s := by
  conv at hcs => rhs; whnf
  subst hcs
  subst hbd
  k_fill
  intro dp un gd fa cd A₀ h₀ L m₁ s Q E l ws ns oN oO oS oH wN wO wS wH B X T Z hd9 hu9 l0 F N dN dO dS dH hl hi hn own ret
  conv => enter [3, 1]; whnf
  k_steps
  rename_i D9 ws9 h9 F9 N9 hJ l9
  have l9' : @LT.lt Nat _ (L + 1 + 1 + 1 + 1) D9 := l9.2.2.2.2.2.2
  have lD : @LT.lt Nat _ 64 D9 := l9.2.2.1
  k_dflt (refine' law_loop w p loose mean mg mb _ (by conv => rhs; whnf) dp un gd fa cd A₀ h₀ L D9 _ _ _ E ws9 _ 0 [(64, tabObj #[]), (64, tabObj #[]), (L + 1, oN), (L + 1 + 1, oO), (L + 1 + 1 + 1, oS), (L + 1 + 1 + 1 + 1, oH)] B X T Z hd9 hu9 F9 ?nd ?nn ?hb hJ l0 l9' ?done)
  case nd => exact fun p hp => N9 p (by cases List.mem_singleton.mp hp; exact .head _)
  case nn =>
    refine fun p hp => N9 p ?_
    simp only [List.mem_cons, List.not_mem_nil, or_false] at hp ⊢
    rcases hp with hp | hp | hp | hp | hp | hp <;> simp only [hp, true_or, or_true]
  case hb => exact ⟨_, _, _, _, _, _, _, _, _, _, _, rfl, .inl rfl, ⟨neN (by omega), neN (by omega), neN (by omega), neN (by omega), neN (by omega)⟩, dN, dO, dS, dH⟩
  intro h' tk m' news' F' N' hb'
  obtain ⟨ps', c', oc', oN', oO', oS', oH', _, _, _, _, rfl, -⟩ := hb'
  clear N9 F9 hJ
  k_steps
  exact ret _ _ _ _ _ F' N' (.head _)
end Mine
end
theorem Mine.rs_M7 : True := by (w_top off; k_with_none; trivial)

open PySem PySem.W PyProof.Rows
set_option Elab.async false
set_option maxRecDepth 100000
set_option pp.maxSteps 200000
set_option pp.deepTerms true
set_option maxHeartbeats 8000000 in
theorem PySem.Challenge.cw_qh0008_01_holds : PySem.Challenge.rw_qh0008_01.Holds := by
  w_on
  refine holds_law (by kernel_rfl) fun said => ?_
  refine Mine.real_holds (by rfl) (by rfl) (by rfl) (by assumption) (by decide +kernel) ⟨rfl, rfl, rfl, rfl, rfl, by decide +kernel⟩ ?hw ?hc
  (case hw => w_witness2)
  w_strict (
    unfold Mine.RealY Mine.kH
    k_fill
    intro w s₀ s₁ mg mb G YY fa o pm cd doc dV kV ho hd hcd hD hmg hg args vals as hpre hlay hrd hwl hlo
    obtain ⟨Y, fz⟩ := YY
    have KX := km_in_of Y
    km_tabs Y
    have X := (Ground.X G).1
    have V := (Ground.X G).2
    refine Ground.open G ?_
    intro T B D TE TW
    try (refine guard_noD D (by decide +kernel) ?_; clear D)
    km_lay T hmg ho hd cd
    clear hmg
    wrow_args hpre hlay hrd hwl hlo
    all_goals (
      first | refine callC_kw (enter_call ?_) | refine enter_call ?_
      w_top on
      kn_posts
      w_call any ho hd hcd hD T F
      clear hd
      kn_ghosts F T
      k_drop
      skip)
    (all_goals try k_fold)
    rename_i ns9 hs9 hlay9 hL8 hr8 hl8 wA wB l9 ws9 wC hL9 ra9 w19 r09 hI9 hr9 hc9 hc8 h9 tk9 oH9 oS9 oO9 oN9 dH9 dS9 dO9 dN9 X09 X9 T9 K9 F9 N9 l09
    have Z9 : Mine.FzAt w (ghostOf s₁.heap [(68, 64)]) := by
      obtain ⟨es, n, t, z, a, b⟩ := fz
      exact ⟨es, n, t, z, a, ghost_ne b (by decide)⟩
    k_dflt (refine' Mine.law_body w _ _ _ mg mb _ ?hcs _ ?hbd _ _ _ fa cd callerA (ghostOf s₁.heap [(68, 64)]) s₁.heap.objs.size (fun _ => none) _ _ _ l9 ws9 ns9 oN9 oO9 oS9 oH9 _ _ _ _ K9 X9 T9 Z9 ?hd9 ?hu9 l09 ?F9 ?N9 dN9 dO9 dS9 dH9 lifted hI9 ?len ?own ?ret)
    (case hcs => (conv => rhs; whnf))
    (case hbd => (conv => rhs; whnf))
    (case hd9 => decide +kernel)
    (case hu9 => decide +kernel)
    (case F9 => exact F9)
    (case N9 => exact fun p hp => N9 p (by simp only [List.mem_cons, List.not_mem_nil, or_false] at hp ⊢; rcases hp with hp | hp | hp | hp | hp <;> simp only [hp, true_or, or_true]))
    (case len => (have e9 := hI9.length; omega))
    (case own => passes_own)
    clear F9 N9 dH9 dS9 dO9 dN9
    intro h' tk m' news' ps' F' N' hm
    have N8 : News (ghostOf s₁.heap [(68, 64)]) s₁.heap.objs.size h' [(64, tabObj ps')] := fun p hp => by cases List.mem_singleton.mp hp; exact N' _ hm
    clear N' hm
    k_steps)
