import PyProof.Rows.All
import Wide.All
import OpenK.AllK
import Wide.FinOn
import Lean
import PySem.Challenge.RW_wn0108_01
set_option Elab.async false
-- WHead
section
open PySem PySem.W PyProof.Rows
set_option Elab.async false
set_option maxRecDepth 100000
set_option linter.unusedVariables false
namespace Mine
noncomputable abbrev prog : Program := PySem.Challenge.rw_wn0108_01.row.toRowW.prog
/-- the text's statements, the members of its class -/
noncomputable def topS (i : Nat) : Stmt := prog.main.body.getD i (.Pass default)
noncomputable def memS (i j : Nat) : Stmt := match topS i with
  | .ClassDef _ _ _ b .. => b.getD j (.Pass default)
  | s => s
/-- a def's object -/
noncomputable def fD (s : Stmt) (q : Str) (g : Addr) (dv kv doc pm : Value) (an : Option Addr) (cd ct : Value) (bl : Addr) : FuncData := match s with
  | .FunctionDef n ps b _ _ _ sc _ _ _ => ⟨n, q, ps, .stmts b, sc, g, [], dv, kv, doc, pm, an, cd, ct, bl⟩
  | _ => default
noncomputable abbrev vS (x : String) (t : Tok) : Value := .str (Str.ofString x) t
noncomputable abbrev kE (P : Params) (x : String) (t : Tok) (v : Value) : DictEntry := ⟨PyData.keyHash P (Str.ofString x), .str (Str.ofString x) t, v⟩
/-- the objects behind the top -/
noncomputable def hd.heap_39 : Params → Frag := fun P =>
    (nat_lit 2, ⟨.none, none, .dict #[kE P "type.__subclasses__.Exception.0" 212 (.int 31 0), kE P "type.__subclasses__.Exception.n" 213 (.int 1 0)] 2, #[]⟩) ::
    (nat_lit 3, ⟨.type "dict", none, .dict #[kE P "__name__" 165 (vS "law_wn0108_01" 389), kE P "__doc__" 166 .none, kE P "__package__" 167 .none, kE P "__loader__" 168 (.builtin "__main__.__loader__#opaque"), kE P "__spec__" 169 .none, kE P "__annotations__" 170 (.ref 6), kE P "__builtins__" 171 (.ref 4), kE P "__file__" 173 (vS "/claim/cut.py" 172), kE P "__cached__" 174 .none, kE P "_wall" 193 (.ref 21), kE P "Error" 215 (.ref 31), kE P "error_reply" 231 (.ref 44), kE P "parse257" 242 (.ref 53), kE P "Whitespace" 344 (.ref 115), kE P "_raise_serialization_error" 353 (.ref 126), kE P "_escape_cdata" 360 (.ref 133), kE P "_escape_attrib" 367 (.ref 140), kE P "_escape_attrib_html" 374 (.ref 147), kE P "_escape_cdata_c14n" 381 (.ref 154), kE P "_escape_attrib_c14n" 388 (.ref 161), kE P "_law_cells" 396 (.ref 166), kE P "_law_ends" 403 (.ref 173), kE P "_law_written" 411 (.ref 180), kE P "_law_within" 425 (.ref 187), kE P "_law_spelled" 434 (.ref 194), kE P "_law_plain" 447 (.ref 201), kE P "_law_replies" 460 (.ref 208), kE P "_law_heard" 470 (.ref 215), kE P "_law_turned" 481 (.ref 222), kE P "_law_column" 491 (.ref 229), kE P "_law_seen" 503 (.ref 236), kE P "law" 524 (.ref 243)] 32, #[]⟩) ::
    (nat_lit 15, ⟨.type "tuple", none, .seq #[] 0, #[]⟩) ::
    (nat_lit 17, ⟨.type "tuple", none, .seq #[vS "k" 190] 0, #[]⟩) ::
    (nat_lit 18, ⟨.type "tuple", none, .seq #[] 0, #[]⟩) ::
    (nat_lit 20, ⟨.type "code", none, .fields #[vS "_wall" 187, vS "_wall" 188, vS "/claim/cut.py" 189, .int 1 0, .int 1 0, .int 0 0, .int 0 0, .int 3 0, .ref 15, .bool true, .int 181 0, .ref 16, .none, .ref 17, .ref 18, .ref 19, .int 191 0, .int 1 0, vS "/claim/cut.py" 192], #[]⟩) ::
    (nat_lit 21, ⟨.type "function", none, .func (fD (topS 0) "_wall" 3 .none .none .none (vS "__main__" 164) none (.ref 20) .none 0), #[]⟩) ::
    (nat_lit 22, ⟨.type "tuple", none, .seq #[.type "Exception"] 0, #[]⟩) ::
    (nat_lit 29, ⟨.type "tuple", none, .seq #[] 0, #[]⟩) ::
    (nat_lit 30, ⟨.type "dict", none, .dict #[kE P "__module__" 203 (vS "cpy313.ftplib" 194), kE P "__firstlineno__" 207 (.int 5 206), kE P "__static_attributes__" 208 (.ref 29), kE P "__weakref__" 210 (.ref 32), kE P "__doc__" 211 .none] 3, #[]⟩) ::
    (nat_lit 31, ⟨.type "type", none, .cls { name := "Error", bases := [.type "Exception"], mro := [.ref 31, .type "Exception", .type "BaseException", .type "object"], ns := 30, qualname := "Error", hasDict := Bool.true, slotNames := [], subclasses := [.ref 44], abstract := Bool.false, collection := none, hasDel := Bool.false }, #[some (.ref 22), none, some (vS "Error" 196), some (vS "Error" 204), some (.builtin "Exception.__new__"), some (.bool true)]⟩) ::
    (nat_lit 32, ⟨.type "getset_descriptor", none, .fields #[vS "__weakref__" 209, .ref 31, .builtin "ExceptionGroup.__weakref__", .none], #[]⟩) ::
    (nat_lit 35, ⟨.type "tuple", none, .seq #[.ref 31] 0, #[]⟩) ::
    (nat_lit 42, ⟨.type "tuple", none, .seq #[] 0, #[]⟩) ::
    (nat_lit 43, ⟨.type "dict", none, .dict #[kE P "__module__" 223 (vS "cpy313.ftplib" 194), kE P "__firstlineno__" 227 (.int 7 226), kE P "__static_attributes__" 228 (.ref 42), kE P "__doc__" 229 .none] 2, #[]⟩) ::
    (nat_lit 44, ⟨.type "type", none, .cls { name := "error_reply", bases := [.ref 31], mro := [.ref 44, .ref 31, .type "Exception", .type "BaseException", .type "object"], ns := 43, qualname := "error_reply", hasDict := Bool.true, slotNames := [], subclasses := [], abstract := Bool.false, collection := none, hasDel := Bool.false }, #[some (.ref 35), none, some (vS "error_reply" 216), some (vS "error_reply" 224), some (.builtin "Exception.__new__"), some (.bool true)]⟩) ::
    (nat_lit 47, ⟨.type "tuple", none, .seq #[] 0, #[]⟩) ::
    (nat_lit 49, ⟨.type "tuple", none, .seq #[vS "resp" 235, vS "dirname" 236, vS "i" 237, vS "n" 238, vS "c" 239] 0, #[]⟩) ::
    (nat_lit 50, ⟨.type "tuple", none, .seq #[] 0, #[]⟩) ::
    (nat_lit 52, ⟨.type "code", none, .fields #[vS "parse257" 232, vS "parse257" 233, vS "/claim/cut.py" 234, .int 9 0, .int 1 0, .int 0 0, .int 0 0, .int 3 0, .ref 47, .bool true, .int 181 0, .ref 48, .none, .ref 49, .ref 50, .ref 51, .int 240 0, .int 9 0, vS "/claim/cut.py" 241], #[]⟩) ::
    (nat_lit 53, ⟨.type "function", none, .func (fD (topS 4) "parse257" 3 .none .none .none (vS "cpy313.ftplib" 194) none (.ref 52) .none 0), #[]⟩) ::
    (nat_lit 64, ⟨.type "tuple", none, .seq #[] 0, #[]⟩) ::
    (nat_lit 66, ⟨.type "tuple", none, .seq #[vS "self" 265, vS "ws" 266, vS "S" 267, vS "T" 268, vS "count" 269, vS "b" 270, vS "n" 271, vS "nt" 272, vS "ch" 273] 0, #[]⟩) ::
    (nat_lit 67, ⟨.type "tuple", none, .seq #[] 0, #[]⟩) ::
    (nat_lit 69, ⟨.type "code", none, .fields #[vS "__init__" 262, vS "Whitespace.__init__" 263, vS "/claim/cut.py" 264, .int 30 0, .int 2 0, .int 0 0, .int 0 0, .int 3 0, .ref 64, .bool true, .int 181 0, .ref 65, .none, .ref 66, .ref 67, .ref 68, .int 274 0, .int 30 0, vS "/claim/cut.py" 275], #[]⟩) ::
    (nat_lit 70, ⟨.type "function", none, .func (fD (memS 6 1) "Whitespace.__init__" 3 .none .none .none (vS "cpy313.tabnanny" 243) none (.ref 69) .none 0), #[]⟩) ::
    (nat_lit 71, ⟨.type "tuple", none, .seq #[] 0, #[]⟩) ::
    (nat_lit 73, ⟨.type "tuple", none, .seq #[vS "self" 280, vS "count" 281, vS "trailing" 282] 0, #[]⟩) ::
    (nat_lit 74, ⟨.type "tuple", none, .seq #[] 0, #[]⟩) ::
    (nat_lit 76, ⟨.type "code", none, .fields #[vS "longest_run_of_spaces" 277, vS "Whitespace.longest_run_of_spaces" 278, vS "/claim/cut.py" 279, .int 53 0, .int 1 0, .int 0 0, .int 0 0, .int 3 0, .ref 71, .bool true, .int 181 0, .ref 72, .none, .ref 73, .ref 74, .ref 75, .int 283 0, .int 53 0, vS "/claim/cut.py" 284], #[]⟩) ::
    (nat_lit 77, ⟨.type "function", none, .func (fD (memS 6 2) "Whitespace.longest_run_of_spaces" 3 .none .none .none (vS "cpy313.tabnanny" 243) none (.ref 76) .none 0), #[]⟩) ::
    (nat_lit 78, ⟨.type "tuple", none, .seq #[] 0, #[]⟩) ::
    (nat_lit 80, ⟨.type "tuple", none, .seq #[vS "self" 289, vS "tabsize" 290, vS "count" 291, vS "trailing" 292, vS "il" 293, vS "i" 294] 0, #[]⟩) ::
    (nat_lit 81, ⟨.type "tuple", none, .seq #[] 0, #[]⟩) ::
    (nat_lit 83, ⟨.type "code", none, .fields #[vS "indent_level" 286, vS "Whitespace.indent_level" 287, vS "/claim/cut.py" 288, .int 57 0, .int 2 0, .int 0 0, .int 0 0, .int 3 0, .ref 78, .bool true, .int 181 0, .ref 79, .none, .ref 80, .ref 81, .ref 82, .int 295 0, .int 57 0, vS "/claim/cut.py" 296], #[]⟩) ::
    (nat_lit 84, ⟨.type "function", none, .func (fD (memS 6 3) "Whitespace.indent_level" 3 .none .none .none (vS "cpy313.tabnanny" 243) none (.ref 83) .none 0), #[]⟩) ::
    (nat_lit 85, ⟨.type "tuple", none, .seq #[] 0, #[]⟩) ::
    (nat_lit 87, ⟨.type "tuple", none, .seq #[vS "self" 301, vS "other" 302] 0, #[]⟩) ::
    (nat_lit 88, ⟨.type "tuple", none, .seq #[] 0, #[]⟩) ::
    (nat_lit 90, ⟨.type "code", none, .fields #[vS "equal" 298, vS "Whitespace.equal" 299, vS "/claim/cut.py" 300, .int 64 0, .int 2 0, .int 0 0, .int 0 0, .int 3 0, .ref 85, .bool true, .int 181 0, .ref 86, .none, .ref 87, .ref 88, .ref 89, .int 303 0, .int 64 0, vS "/claim/cut.py" 304], #[]⟩) ::
    (nat_lit 91, ⟨.type "function", none, .func (fD (memS 6 4) "Whitespace.equal" 3 .none .none .none (vS "cpy313.tabnanny" 243) none (.ref 90) .none 0), #[]⟩) ::
    (nat_lit 92, ⟨.type "tuple", none, .seq #[] 0, #[]⟩) ::
    (nat_lit 94, ⟨.type "tuple", none, .seq #[vS "self" 309, vS "other" 310] 0, #[]⟩) ::
    (nat_lit 95, ⟨.type "tuple", none, .seq #[] 0, #[]⟩) ::
    (nat_lit 97, ⟨.type "code", none, .fields #[vS "not_equal_witness" 306, vS "Whitespace.not_equal_witness" 307, vS "/claim/cut.py" 308, .int 67 0, .int 2 0, .int 0 0, .int 0 0, .int 3 0, .ref 92, .bool true, .int 181 0, .ref 93, .none, .ref 94, .ref 95, .ref 96, .int 311 0, .int 67 0, vS "/claim/cut.py" 312], #[]⟩) ::
    (nat_lit 98, ⟨.type "function", none, .func (fD (memS 6 5) "Whitespace.not_equal_witness" 3 .none .none .none (vS "cpy313.tabnanny" 243) none (.ref 97) .none 0), #[]⟩) ::
    (nat_lit 99, ⟨.type "tuple", none, .seq #[] 0, #[]⟩) ::
    (nat_lit 101, ⟨.type "tuple", none, .seq #[vS "self" 317, vS "other" 318, vS "n" 319, vS "ts" 320] 0, #[]⟩) ::
    (nat_lit 102, ⟨.type "tuple", none, .seq #[] 0, #[]⟩) ::
    (nat_lit 104, ⟨.type "code", none, .fields #[vS "less" 314, vS "Whitespace.less" 315, vS "/claim/cut.py" 316, .int 70 0, .int 2 0, .int 0 0, .int 0 0, .int 3 0, .ref 99, .bool true, .int 181 0, .ref 100, .none, .ref 101, .ref 102, .ref 103, .int 321 0, .int 70 0, vS "/claim/cut.py" 322], #[]⟩) ::
    (nat_lit 105, ⟨.type "function", none, .func (fD (memS 6 6) "Whitespace.less" 3 .none .none .none (vS "cpy313.tabnanny" 243) none (.ref 104) .none 0), #[]⟩) ::
    (nat_lit 106, ⟨.type "tuple", none, .seq #[] 0, #[]⟩) ::
    (nat_lit 108, ⟨.type "tuple", none, .seq #[vS "self" 327, vS "other" 328] 0, #[]⟩) ::
    (nat_lit 109, ⟨.type "tuple", none, .seq #[] 0, #[]⟩) ::
    (nat_lit 111, ⟨.type "code", none, .fields #[vS "not_less_witness" 324, vS "Whitespace.not_less_witness" 325, vS "/claim/cut.py" 326, .int 81 0, .int 2 0, .int 0 0, .int 0 0, .int 3 0, .ref 106, .bool true, .int 181 0, .ref 107, .none, .ref 108, .ref 109, .ref 110, .int 329 0, .int 81 0, vS "/claim/cut.py" 330], #[]⟩) ::
    (nat_lit 112, ⟨.type "function", none, .func (fD (memS 6 7) "Whitespace.not_less_witness" 3 .none .none .none (vS "cpy313.tabnanny" 243) none (.ref 111) .none 0), #[]⟩) ::
    (nat_lit 113, ⟨.type "tuple", none, .seq #[vS "is_simple" 332, vS "n" 333, vS "norm" 334, vS "nt" 335, vS "raw" 336] 0, #[]⟩) ::
    (nat_lit 114, ⟨.type "dict", none, .dict #[kE P "__module__" 252 (vS "cpy313.tabnanny" 243), kE P "__firstlineno__" 256 (.int 27 255), kE P "S" 260 (vS " " 258), kE P "T" 261 (vS "\t" 259), kE P "__init__" 276 (.ref 70), kE P "longest_run_of_spaces" 285 (.ref 77), kE P "indent_level" 297 (.ref 84), kE P "equal" 305 (.ref 91), kE P "not_equal_witness" 313 (.ref 98), kE P "less" 323 (.ref 105), kE P "not_less_witness" 331 (.ref 112), kE P "__static_attributes__" 337 (.ref 113), kE P "__dict__" 339 (.ref 116), kE P "__weakref__" 341 (.ref 117), kE P "__doc__" 342 .none] 4, #[]⟩) ::
    (nat_lit 115, ⟨.type "type", none, .cls { name := "Whitespace", bases := [.type "object"], mro := [.ref 115, .type "object"], ns := 114, qualname := "Whitespace", hasDict := Bool.true, slotNames := [], subclasses := [], abstract := Bool.false, collection := none, hasDel := Bool.false }, #[none, none, some (vS "Whitespace" 245), some (vS "Whitespace" 253), some (.builtin "object.__new__"), some (.bool true)]⟩) ::
    (nat_lit 116, ⟨.type "getset_descriptor", none, .fields #[vS "__dict__" 338, .ref 115, .builtin "function.__dict__", .builtin "function.__dict__#set"], #[]⟩) ::
    (nat_lit 117, ⟨.type "getset_descriptor", none, .fields #[vS "__weakref__" 340, .ref 115, .builtin "ExceptionGroup.__weakref__", .none], #[]⟩) ::
    (nat_lit 120, ⟨.type "tuple", none, .seq #[] 0, #[]⟩) ::
    (nat_lit 122, ⟨.type "tuple", none, .seq #[vS "text" 350] 0, #[]⟩) ::
    (nat_lit 123, ⟨.type "tuple", none, .seq #[] 0, #[]⟩) ::
    (nat_lit 125, ⟨.type "code", none, .fields #[vS "_raise_serialization_error" 347, vS "_raise_serialization_error" 348, vS "/claim/cut.py" 349, .int 84 0, .int 1 0, .int 0 0, .int 0 0, .int 3 0, .ref 120, .bool true, .int 181 0, .ref 121, .none, .ref 122, .ref 123, .ref 124, .int 351 0, .int 84 0, vS "/claim/cut.py" 352], #[]⟩) ::
    (nat_lit 126, ⟨.type "function", none, .func (fD (topS 8) "_raise_serialization_error" 3 .none .none .none (vS "cpy313.xml.etree.ElementTree" 345) none (.ref 125) .none 0), #[]⟩) ::
    (nat_lit 127, ⟨.type "tuple", none, .seq #[] 0, #[]⟩) ::
    (nat_lit 129, ⟨.type "tuple", none, .seq #[vS "text" 357] 0, #[]⟩) ::
    (nat_lit 130, ⟨.type "tuple", none, .seq #[] 0, #[]⟩) ::
    (nat_lit 132, ⟨.type "code", none, .fields #[vS "_escape_cdata" 354, vS "_escape_cdata" 355, vS "/claim/cut.py" 356, .int 86 0, .int 1 0, .int 0 0, .int 0 0, .int 3 0, .ref 127, .bool true, .int 181 0, .ref 128, .none, .ref 129, .ref 130, .ref 131, .int 358 0, .int 86 0, vS "/claim/cut.py" 359], #[]⟩) ::
    (nat_lit 133, ⟨.type "function", none, .func (fD (topS 9) "_escape_cdata" 3 .none .none .none (vS "cpy313.xml.etree.ElementTree" 345) none (.ref 132) .none 0), #[]⟩) ::
    (nat_lit 134, ⟨.type "tuple", none, .seq #[] 0, #[]⟩) ::
    (nat_lit 136, ⟨.type "tuple", none, .seq #[vS "text" 364] 0, #[]⟩) ::
    (nat_lit 137, ⟨.type "tuple", none, .seq #[] 0, #[]⟩) ::
    (nat_lit 139, ⟨.type "code", none, .fields #[vS "_escape_attrib" 361, vS "_escape_attrib" 362, vS "/claim/cut.py" 363, .int 97 0, .int 1 0, .int 0 0, .int 0 0, .int 3 0, .ref 134, .bool true, .int 181 0, .ref 135, .none, .ref 136, .ref 137, .ref 138, .int 365 0, .int 97 0, vS "/claim/cut.py" 366], #[]⟩) ::
    (nat_lit 140, ⟨.type "function", none, .func (fD (topS 10) "_escape_attrib" 3 .none .none .none (vS "cpy313.xml.etree.ElementTree" 345) none (.ref 139) .none 0), #[]⟩) ::
    (nat_lit 141, ⟨.type "tuple", none, .seq #[] 0, #[]⟩) ::
    (nat_lit 143, ⟨.type "tuple", none, .seq #[vS "text" 371] 0, #[]⟩) ::
    (nat_lit 144, ⟨.type "tuple", none, .seq #[] 0, #[]⟩) ::
    (nat_lit 146, ⟨.type "code", none, .fields #[vS "_escape_attrib_html" 368, vS "_escape_attrib_html" 369, vS "/claim/cut.py" 370, .int 116 0, .int 1 0, .int 0 0, .int 0 0, .int 3 0, .ref 141, .bool true, .int 181 0, .ref 142, .none, .ref 143, .ref 144, .ref 145, .int 372 0, .int 116 0, vS "/claim/cut.py" 373], #[]⟩) ::
    (nat_lit 147, ⟨.type "function", none, .func (fD (topS 11) "_escape_attrib_html" 3 .none .none .none (vS "cpy313.xml.etree.ElementTree" 345) none (.ref 146) .none 0), #[]⟩) ::
    (nat_lit 148, ⟨.type "tuple", none, .seq #[] 0, #[]⟩) ::
    (nat_lit 150, ⟨.type "tuple", none, .seq #[vS "text" 378] 0, #[]⟩) ::
    (nat_lit 151, ⟨.type "tuple", none, .seq #[] 0, #[]⟩) ::
    (nat_lit 153, ⟨.type "code", none, .fields #[vS "_escape_cdata_c14n" 375, vS "_escape_cdata_c14n" 376, vS "/claim/cut.py" 377, .int 127 0, .int 1 0, .int 0 0, .int 0 0, .int 3 0, .ref 148, .bool true, .int 181 0, .ref 149, .none, .ref 150, .ref 151, .ref 152, .int 379 0, .int 127 0, vS "/claim/cut.py" 380], #[]⟩) ::
    (nat_lit 154, ⟨.type "function", none, .func (fD (topS 12) "_escape_cdata_c14n" 3 .none .none .none (vS "cpy313.xml.etree.ElementTree" 345) none (.ref 153) .none 0), #[]⟩) ::
    (nat_lit 155, ⟨.type "tuple", none, .seq #[] 0, #[]⟩) ::
    (nat_lit 157, ⟨.type "tuple", none, .seq #[vS "text" 385] 0, #[]⟩) ::
    (nat_lit 158, ⟨.type "tuple", none, .seq #[] 0, #[]⟩) ::
    (nat_lit 160, ⟨.type "code", none, .fields #[vS "_escape_attrib_c14n" 382, vS "_escape_attrib_c14n" 383, vS "/claim/cut.py" 384, .int 140 0, .int 1 0, .int 0 0, .int 0 0, .int 3 0, .ref 155, .bool true, .int 181 0, .ref 156, .none, .ref 157, .ref 158, .ref 159, .int 386 0, .int 140 0, vS "/claim/cut.py" 387], #[]⟩) ::
    (nat_lit 161, ⟨.type "function", none, .func (fD (topS 13) "_escape_attrib_c14n" 3 .none .none .none (vS "cpy313.xml.etree.ElementTree" 345) none (.ref 160) .none 0), #[]⟩) ::
    (nat_lit 162, ⟨.type "tuple", none, .seq #[] 0, #[]⟩) ::
    (nat_lit 165, ⟨.type "code", none, .fields #[vS "_law_cells" 391, vS "_law_cells" 392, vS "/claim/cut.py" 393, .int 158 0, .int 1 0, .int 0 0, .int 0 0, .int 3 0, .ref 162, .bool true, .int 181 0, .ref 163, .none, .none, .none, .ref 164, .int 394 0, .int 158 0, vS "/claim/cut.py" 395], #[]⟩) ::
    (nat_lit 166, ⟨.type "function", none, .func (fD (topS 15) "_law_cells" 3 .none .none .none (vS "law_wn0108_01" 389) none (.ref 165) .none 0), #[]⟩) ::
    (nat_lit 167, ⟨.type "tuple", none, .seq #[] 0, #[]⟩) ::
    (nat_lit 169, ⟨.type "tuple", none, .seq #[vS "hand" 400] 0, #[]⟩) ::
    (nat_lit 170, ⟨.type "tuple", none, .seq #[] 0, #[]⟩) ::
    (nat_lit 172, ⟨.type "code", none, .fields #[vS "_law_ends" 397, vS "_law_ends" 398, vS "/claim/cut.py" 399, .int 163 0, .int 1 0, .int 0 0, .int 0 0, .int 3 0, .ref 167, .bool true, .int 181 0, .ref 168, .none, .ref 169, .ref 170, .ref 171, .int 401 0, .int 163 0, vS "/claim/cut.py" 402], #[]⟩) ::
    (nat_lit 173, ⟨.type "function", none, .func (fD (topS 16) "_law_ends" 3 .none .none .none (vS "law_wn0108_01" 389) none (.ref 172) .none 0), #[]⟩) ::
    (nat_lit 174, ⟨.type "tuple", none, .seq #[] 0, #[]⟩) ::
    (nat_lit 176, ⟨.type "tuple", none, .seq #[vS "text" 407, vS "hand" 408] 0, #[]⟩) ::
    (nat_lit 177, ⟨.type "tuple", none, .seq #[] 0, #[]⟩) ::
    (nat_lit 179, ⟨.type "code", none, .fields #[vS "_law_written" 404, vS "_law_written" 405, vS "/claim/cut.py" 406, .int 173 0, .int 2 0, .int 0 0, .int 0 0, .int 3 0, .ref 174, .bool true, .int 181 0, .ref 175, .none, .ref 176, .ref 177, .ref 178, .int 409 0, .int 173 0, vS "/claim/cut.py" 410], #[]⟩) ::
    (nat_lit 180, ⟨.type "function", none, .func (fD (topS 17) "_law_written" 3 .none .none .none (vS "law_wn0108_01" 389) none (.ref 179) .none 0), #[]⟩) ::
    (nat_lit 181, ⟨.type "tuple", none, .seq #[] 0, #[]⟩) ::
    (nat_lit 183, ⟨.type "tuple", none, .seq #[vS "tree" 415, vS "depth" 416, vS "hand" 417, vS "told" 418, vS "k" 419, vS "beneath" 420, vS "node" 421, vS "whole" 422] 0, #[]⟩) ::
    (nat_lit 184, ⟨.type "tuple", none, .seq #[] 0, #[]⟩) ::
    (nat_lit 186, ⟨.type "code", none, .fields #[vS "_law_within" 412, vS "_law_within" 413, vS "/claim/cut.py" 414, .int 183 0, .int 3 0, .int 0 0, .int 0 0, .int 3 0, .ref 181, .bool true, .int 181 0, .ref 182, .none, .ref 183, .ref 184, .ref 185, .int 423 0, .int 183 0, vS "/claim/cut.py" 424], #[]⟩) ::
    (nat_lit 187, ⟨.type "function", none, .func (fD (topS 18) "_law_within" 3 .none .none .none (vS "law_wn0108_01" 389) none (.ref 186) .none 0), #[]⟩) ::
    (nat_lit 188, ⟨.type "tuple", none, .seq #[] 0, #[]⟩) ::
    (nat_lit 190, ⟨.type "tuple", none, .seq #[vS "sign" 429, vS "times" 430, vS "ends" 431] 0, #[]⟩) ::
    (nat_lit 191, ⟨.type "tuple", none, .seq #[] 0, #[]⟩) ::
    (nat_lit 193, ⟨.type "code", none, .fields #[vS "_law_spelled" 426, vS "_law_spelled" 427, vS "/claim/cut.py" 428, .int 195 0, .int 3 0, .int 0 0, .int 0 0, .int 3 0, .ref 188, .bool true, .int 181 0, .ref 189, .none, .ref 190, .ref 191, .ref 192, .int 432 0, .int 195 0, vS "/claim/cut.py" 433], #[]⟩) ::
    (nat_lit 194, ⟨.type "function", none, .func (fD (topS 19) "_law_spelled" 3 .none .none .none (vS "law_wn0108_01" 389) none (.ref 193) .none 0), #[]⟩) ::
    (nat_lit 195, ⟨.type "tuple", none, .seq #[] 0, #[]⟩) ::
    (nat_lit 197, ⟨.type "tuple", none, .seq #[vS "tree" 438, vS "ends" 439, vS "told" 440, vS "k" 441, vS "depth" 442, vS "coming" 443, vS "closing" 444] 0, #[]⟩) ::
    (nat_lit 198, ⟨.type "tuple", none, .seq #[] 0, #[]⟩) ::
    (nat_lit 200, ⟨.type "code", none, .fields #[vS "_law_plain" 435, vS "_law_plain" 436, vS "/claim/cut.py" 437, .int 199 0, .int 2 0, .int 0 0, .int 0 0, .int 3 0, .ref 195, .bool true, .int 181 0, .ref 196, .none, .ref 197, .ref 198, .ref 199, .int 445 0, .int 199 0, vS "/claim/cut.py" 446], #[]⟩) ::
    (nat_lit 201, ⟨.type "function", none, .func (fD (topS 20) "_law_plain" 3 .none .none .none (vS "law_wn0108_01" 389) none (.ref 200) .none 0), #[]⟩) ::
    (nat_lit 202, ⟨.type "tuple", none, .seq #[] 0, #[]⟩) ::
    (nat_lit 204, ⟨.type "tuple", none, .seq #[vS "tree" 451, vS "told" 452, vS "k" 453, vS "depth" 454, vS "sign" 455, vS "coming" 456, vS "closing" 457] 0, #[]⟩) ::
    (nat_lit 205, ⟨.type "tuple", none, .seq #[] 0, #[]⟩) ::
    (nat_lit 207, ⟨.type "code", none, .fields #[vS "_law_replies" 448, vS "_law_replies" 449, vS "/claim/cut.py" 450, .int 208 0, .int 1 0, .int 0 0, .int 0 0, .int 3 0, .ref 202, .bool true, .int 181 0, .ref 203, .none, .ref 204, .ref 205, .ref 206, .int 458 0, .int 208 0, vS "/claim/cut.py" 459], #[]⟩) ::
    (nat_lit 208, ⟨.type "function", none, .func (fD (topS 21) "_law_replies" 3 .none .none .none (vS "law_wn0108_01" 389) none (.ref 207) .none 0), #[]⟩) ::
    (nat_lit 209, ⟨.type "tuple", none, .seq #[] 0, #[]⟩) ::
    (nat_lit 211, ⟨.type "tuple", none, .seq #[vS "told" 464, vS "depth" 465, vS "heard" 466, vS "name" 467] 0, #[]⟩) ::
    (nat_lit 212, ⟨.type "tuple", none, .seq #[] 0, #[]⟩) ::
    (nat_lit 214, ⟨.type "code", none, .fields #[vS "_law_heard" 461, vS "_law_heard" 462, vS "/claim/cut.py" 463, .int 218 0, .int 2 0, .int 0 0, .int 0 0, .int 3 0, .ref 209, .bool true, .int 181 0, .ref 210, .none, .ref 211, .ref 212, .ref 213, .int 468 0, .int 218 0, vS "/claim/cut.py" 469], #[]⟩) ::
    (nat_lit 215, ⟨.type "function", none, .func (fD (topS 22) "_law_heard" 3 .none .none .none (vS "law_wn0108_01" 389) none (.ref 214) .none 0), #[]⟩) ::
    (nat_lit 216, ⟨.type "tuple", none, .seq #[] 0, #[]⟩) ::
    (nat_lit 218, ⟨.type "tuple", none, .seq #[vS "lead" 474, vS "turn" 475, vS "runs" 476, vS "closed" 477, vS "k" 478] 0, #[]⟩) ::
    (nat_lit 219, ⟨.type "tuple", none, .seq #[] 0, #[]⟩) ::
    (nat_lit 221, ⟨.type "code", none, .fields #[vS "_law_turned" 471, vS "_law_turned" 472, vS "/claim/cut.py" 473, .int 228 0, .int 2 0, .int 0 0, .int 0 0, .int 3 0, .ref 216, .bool true, .int 181 0, .ref 217, .none, .ref 218, .ref 219, .ref 220, .int 479 0, .int 228 0, vS "/claim/cut.py" 480], #[]⟩) ::
    (nat_lit 222, ⟨.type "function", none, .func (fD (topS 23) "_law_turned" 3 .none .none .none (vS "law_wn0108_01" 389) none (.ref 221) .none 0), #[]⟩) ::
    (nat_lit 223, ⟨.type "tuple", none, .seq #[] 0, #[]⟩) ::
    (nat_lit 225, ⟨.type "tuple", none, .seq #[vS "lead" 485, vS "size" 486, vS "column" 487, vS "sign" 488] 0, #[]⟩) ::
    (nat_lit 226, ⟨.type "tuple", none, .seq #[] 0, #[]⟩) ::
    (nat_lit 228, ⟨.type "code", none, .fields #[vS "_law_column" 482, vS "_law_column" 483, vS "/claim/cut.py" 484, .int 235 0, .int 2 0, .int 0 0, .int 0 0, .int 3 0, .ref 223, .bool true, .int 181 0, .ref 224, .none, .ref 225, .ref 226, .ref 227, .int 489 0, .int 235 0, vS "/claim/cut.py" 490], #[]⟩) ::
    (nat_lit 229, ⟨.type "function", none, .func (fD (topS 24) "_law_column" 3 .none .none .none (vS "law_wn0108_01" 389) none (.ref 228) .none 0), #[]⟩) ::
    (nat_lit 230, ⟨.type "tuple", none, .seq #[] 0, #[]⟩) ::
    (nat_lit 232, ⟨.type "tuple", none, .seq #[vS "lines" 495, vS "size" 496, vS "pile" 497, vS "seen" 498, vS "line" 499, vS "lead" 500] 0, #[]⟩) ::
    (nat_lit 233, ⟨.type "tuple", none, .seq #[] 0, #[]⟩) ::
    (nat_lit 235, ⟨.type "code", none, .fields #[vS "_law_seen" 492, vS "_law_seen" 493, vS "/claim/cut.py" 494, .int 243 0, .int 2 0, .int 0 0, .int 0 0, .int 3 0, .ref 230, .bool true, .int 181 0, .ref 231, .none, .ref 232, .ref 233, .ref 234, .int 501 0, .int 243 0, vS "/claim/cut.py" 502], #[]⟩) ::
    (nat_lit 236, ⟨.type "function", none, .func (fD (topS 25) "_law_seen" 3 .none .none .none (vS "law_wn0108_01" 389) none (.ref 235) .none 0), #[]⟩) ::
    (nat_lit 237, ⟨.type "tuple", none, .seq #[] 0, #[]⟩) ::
    (nat_lit 239, ⟨.type "tuple", none, .seq #[vS "script" 507, vS "cells" 508, vS "rest" 509, vS "units" 510, vS "leads" 511, vS "step" 512, vS "hand" 513, vS "size" 514, vS "table" 515, vS "tree" 516, vS "lines" 517, vS "due" 518, vS "depth" 519, vS "cell" 520, vS "sign" 521] 0, #[]⟩) ::
    (nat_lit 240, ⟨.type "tuple", none, .seq #[] 0, #[]⟩) ::
    (nat_lit 242, ⟨.type "code", none, .fields #[vS "law" 504, vS "law" 505, vS "/claim/cut.py" 506, .int 255 0, .int 1 0, .int 0 0, .int 0 0, .int 3 0, .ref 237, .bool true, .int 181 0, .ref 238, .none, .ref 239, .ref 240, .ref 241, .int 522 0, .int 255 0, vS "/claim/cut.py" 523], #[]⟩) ::
    (nat_lit 243, ⟨.type "function", none, .func (fD (topS 26) "law" 3 .none .none .none (vS "law_wn0108_01" 389) none (.ref 242) .none 0), #[]⟩) ::
    []
/-- the text without the rows that name it -/
noncomputable def hd.view_39 : Program := PySem.W.view prog [0, 2, 3, 4, 6, 8, 9, 10, 11, 12, 13, 15, 16, 17, 18, 19, 20, 21, 22, 23, 24, 25, 26]
noncomputable abbrev loose : List Str := [Str.ofString "Whitespace"]
noncomputable def addrs : List Addr := [2, 3, 15, 17, 18, 20, 21, 22, 29, 30, 31, 32, 35, 42, 43, 44, 47, 49, 50, 52, 53, 64, 66, 67, 69, 70, 71, 73, 74, 76, 77, 78, 80, 81, 83, 84, 85, 87, 88, 90, 91, 92, 94, 95, 97, 98, 99, 101, 102, 104, 105, 106, 108, 109, 111, 112, 113, 114, 115, 116, 117, 120, 122, 123, 125, 126, 127, 129, 130, 132, 133, 134, 136, 137, 139, 140, 141, 143, 144, 146, 147, 148, 150, 151, 153, 154, 155, 157, 158, 160, 161, 162, 165, 166, 167, 169, 170, 172, 173, 174, 176, 177, 179, 180, 181, 183, 184, 186, 187, 188, 190, 191, 193, 194, 195, 197, 198, 200, 201, 202, 204, 205, 207, 208, 209, 211, 212, 214, 215, 216, 218, 219, 221, 222, 223, 225, 226, 228, 229, 230, 232, 233, 235, 236, 237, 239, 240, 242, 243]
theorem addrs_K (P : Params) : addrs = (hd.heap_39 P).map (·.1) := by kernel_rfl
noncomputable abbrev hook : Hook := kHook hd.heap_39 addrs addrs_K
noncomputable abbrev xt (s : Shared) : Bool := xlAt hd.view_39 [] s && recOk PySem.Challenge.rw_wn0108_01.row.toRowW.records s
noncomputable abbrev s0 (P : Params) (os : OsState) : Shared := ⟨boot_heap P, Array.mk [], boot_drawn, boot_toks, os⟩
theorem said : PySem.Challenge.rw_wn0108_01.wellSaid = true := by
  rw [PySem.W.Fast.te9446332074065402090]
  kernel_rfl

/-- what is looked at behind the top -/
noncomputable abbrev looks (p q : Program) (loose : List Str) (Xt : Shared → Bool) (h₀ : Heap) {α : Type} (Yf : Shared → α) (s₁ : Shared) :=
  ((staticsOk (importedModules p.main.body) h₀ s₁.heap && namesBound p s₁.heap && gensDone s₁ && laidKept h₀ s₁.heap), openSeen q loose (importedModules p.main.body) Xt true s₁, Yf s₁)
theorem left_boot {p q : Program} {loose : List Str} {Xt : Shared → Bool} {α : Type} {Yf : Shared → α} {Ya : World → α} {N : Nat} (e : opening p = plainProg p.main.scope.names) (hN : Nat.ble 600 N = true) (f : ∀ s, fenceModules? p s = some s)
    (z : ∀ P, ((boot_heap P).isNs mainGlobals, (boot_heap P).objs.size, (boot_heap P).nsMap mainGlobals "__annotations__") = (true, 11, some (.ref 6)))
    (h : ∀ (w : World) (os : OsState), (topRun treeTable p w 11 (some (.ref 6)) N (s0 w.params os) (topStub p)).map (looks p q loose Xt (boot_heap w.params) Yf) = some (true, openGood q loose, Ya w)) : LeftO p q loose Xt Yf Ya N := fun w => by
  obtain ⟨⟨hp, gs, d, k, os⟩, e1, e2⟩ := Option.map_eq_some_iff.mp (boot_open e hN f w)
  obtain ⟨rfl, rfl, rfl, rfl⟩ : hp = boot_heap w.params ∧ gs = Array.mk [] ∧ d = boot_drawn ∧ k = boot_toks := by simpa using e2
  obtain ⟨z1, z2, z3⟩ : _ ∧ _ ∧ _ := by simpa only [Prod.mk.injEq] using z w.params
  obtain ⟨s₁, r, l⟩ := Option.map_eq_some_iff.mp (h w os)
  obtain ⟨l1, l2, l3⟩ : _ ∧ _ ∧ _ := by simpa only [Prod.mk.injEq] using l
  have t : topFrom treeTable p w N (s0 w.params os) = some s₁ := by
    unfold topFrom
    dsimp only
    rw [z1, z2, z3, r]
    show (match staticsOk (importedModules p.main.body) (boot_heap w.params) s₁.heap && namesBound p s₁.heap && gensDone s₁ && laidKept (boot_heap w.params) s₁.heap with | true => _ | false => _) = _
    rw [l1]
  unfold openEnds
  rw [e1]
  show (topFrom treeTable p w N _).map _ = _
  rw [t]
  exact congrArg some (Prod.ext l2 l3)
noncomputable abbrev Told (w : World) : Prop := ∀ os : OsState, (topRun treeTable prog w 11 (some (.ref 6)) 3264 (s0 w.params os) (topStub prog)).map (looks prog hd.view_39 loose xt (boot_heap w.params) hook.obs) = some (true, openGood hd.view_39 loose, hook.val w)
set_option maxHeartbeats 0 in
theorem toldF (w : World) : Told (w.withFollow "special-get-raises" false) := fun os => by
  unfold looks
  rw [PySem.W.Fast.te14082659384304107361, PySem.W.Fast.te14364793385576792824, PySem.W.Fast.te4187177175401517315]
  kernel_rfl
set_option maxHeartbeats 0 in
theorem toldT (w : World) : Told (w.withFollow "special-get-raises" true) := fun os => by
  unfold looks
  rw [PySem.W.Fast.te14082659384304107361, PySem.W.Fast.te14364793385576792824, PySem.W.Fast.te4187177175401517315]
  kernel_rfl
theorem left : LeftO prog hd.view_39 loose xt hook.obs hook.val 3264 :=
  left_boot (by kernel_rfl) (by decide) (fun _ => by kernel_rfl) (fun _ => by kernel_rfl) (byRow2 "special-get-raises" (P := Told) toldF toldT)
end Mine
end
-- MBase
section
open PySem PySem.W PyProof.Rows PySem.Calls
set_option maxRecDepth 100000
set_option linter.unusedVariables false
namespace Mine


/-- the heap keeps all that it had -/
noncomputable abbrev Keep (h h' : Heap) : Prop := ∀ b o, h.get? b = some o → h'.get? b = some o

/-- where a call may be made from: nothing is handled, the top's facts, the written part, the frames below -/
structure Cx (w : World) (A : Around) (h : Heap) : Prop where
  hh : A.handled = none
  top : ∃ p loose mean mg mb, Top p loose mean mg mb h
  kin : (hd.heap_39 w.params).In h
  bel : ∃ base fr, Below A base fr h

/-- room: n more frames -/
structure Rm (A : Around) (n : Nat) : Prop where
  d : A.depth + n < recursionLimit
  u : A.units + 8 * n < cLine

/-- a call's end: the heap keeps, and P of the value -/
noncomputable def Ends (s : Shared) (P : Heap → Value → Prop) (r : Value) (s' : Shared) : Prop :=
  ∃ h' tk', s' = { s with heap := h', toks := tk' } ∧ Keep s.heap h' ∧ P h' r

/-- the call gives back a value of which P holds, raises nothing -/
noncomputable abbrev Gives (prog : Program) (w : World) (A : Around) (f : Addr) (args : List Value) (s : Shared) (P : Heap → Value → Prop) : Prop :=
  wpAny (model prog w) A (call (.ref f) args) (Ends s P) (fun _ _ => False) s

section
variable {prog : Program} {w : World} {A : Around} {s : Shared}

theorem Gives.use {f : Addr} {args : List Value} {P : Heap → Value → Prop} {Q E : Value → Shared → Prop} (g : Gives prog w A f args s P)
    (k : ∀ h' tk' r, Keep s.heap h' → P h' r → Q r { s with heap := h', toks := tk' }) : wpAny (model prog w) A (call (.ref f) args) Q E s :=
  wpAny_mono g (fun r s' ⟨h', tk', e, hk, hp⟩ => by subst e; exact k h' tk' r hk hp) fun _ _ x => x.elim

theorem Gives.useT {f : Addr} {args : List Value} {P : Heap → Value → Prop} {Q E : Value → Shared → Prop} (g : Gives prog w A f args s P) (ht : 1 ≤ s.toks)
    (k : ∀ h' tk' r, 1 ≤ tk' → Keep s.heap h' → P h' r → Q r { s with heap := h', toks := tk' }) : wpAny (model prog w) A (call (.ref f) args) Q E s :=
  wpAny_mono (wpAny_toks_of ht g) (fun r s' ⟨ht', h', tk', e, hk, hp⟩ => by subst e; exact k h' tk' r ht' hk hp) fun _ _ x => x.2.elim

theorem execs_consT {E : Value → Shared → Prop} {env : Env} {st : Stmt} {rest : List Stmt} {Q : Flow → Shared → Prop} (ht : 1 ≤ s.toks)
    (h : wpAny (model prog w) A (exec st env) (fun f s' => 1 ≤ s'.toks → (match f with | .next => wpAny (model prog w) A (execs rest env) Q E s' | f => Q f s')) E s) :
    wpAny (model prog w) A (execs (st :: rest) env) Q E s :=
  wpAny_execs_cons (wpAny_mono (wpAny_toks_of ht h) (fun f s' x => x.2 x.1) fun _ _ x => x.2)
/-- as execs_consT; how many names were made is forgotten, but that it is one at least -/
theorem execs_consK {E : Value → Shared → Prop} {env : Env} {st : Stmt} {rest : List Stmt} {Q : Flow → Shared → Prop} {h₀ : Heap} {gens : Array GenState} {drawn : Drawn} {tk : Nat} {os : OsState} (ht : 1 ≤ tk)
    (h : ∀ tk, 1 ≤ tk → wpAny (model prog w) A (exec st env) (fun f s' => 1 ≤ s'.toks → (match f with | .next => wpAny (model prog w) A (execs rest env) Q E s' | f => Q f s')) E ⟨h₀, gens, drawn, tk, os⟩) :
    wpAny (model prog w) A (execs (st :: rest) env) Q E ⟨h₀, gens, drawn, tk, os⟩ := execs_consT ht (h tk ht)

theorem Gives.mono {f : Addr} {args : List Value} {P P' : Heap → Value → Prop} (g : Gives prog w A f args s P) (k : ∀ h r, P h r → P' h r) : Gives prog w A f args s P' :=
  g.use fun h' tk' r hk hp => ⟨h', tk', rfl, hk, k _ _ hp⟩

theorem enter {name qual : Str} {params : Arguments} {body : List Stmt} {scope : Scope} {dV kV doc pm cdv ct oc : Value} {an od : Option Addr} {osl : Array (Option Value)} {f : Addr} {args : List Value} {binds : List (Str × Value)}
    {P : Heap → Value → Prop} (C : Cx w A s.heap)
    (ho : (hd.heap_39 w.params).lookup f = some ⟨oc, od, .func (fnOf name qual params body scope dV kV doc pm an cdv ct), osl⟩) (hcd : codeIn (hd.heap_39 w.params) cdv qual = true) (hroom : A.depth < recursionLimit)
    (hbind : BindsTo s (fnOf name qual params body scope dV kV doc pm an cdv ct) ⟨args, []⟩ binds) (hloc : ∀ y ∈ binds, scope.names.lookup y.1 = some .local)
    (hcell : ∀ x ∈ scope.names, x.2 ≠ .cell) (hco : scope.isCoroutine = false) (hgen : scope.isGenerator = false) (hk : scope.kind = .function)
    (h : ∀ (g : Heap) (L : Addr) (h₁ : Heap) base fr p loose mean mg mb (Q : Flow → Shared → Prop), g = s.heap → Fr g L h₁ (fun y => binds.reverse.lookup y) → News g L h₁ [] → Below A base fr g → (hd.heap_39 w.params).In g → Top p loose mean mg mb g →
      (∀ v h' m' tk', Fr g L h' m' → P h' v → Q (.ret v) { s with heap := h', toks := tk' }) →
      wpAny (model prog w) (A.deeper (envOf qual scope L f cdv)) (execs body (envOf qual scope L f cdv)) Q (fun _ _ => False)
        { s with heap := h₁, toks := s.toks + binds.length }) :
    Gives prog w A f args s P := by
  obtain ⟨hh, ⟨p, loose, mean, mg, mb, T⟩, X, base, fr, B⟩ := C
  refine wpAny_call ?_
  refine codeAny_call_def (fd := fnOf name qual params body scope dV kV doc pm an cdv ct) (body := body) (binds := binds) hroom (X _ _ ho) rfl T.nolimit (codeRec_of X hcd) rfl hbind hcell hloc (fun h₁ hns hk₁ => ?_) hco hgen hk
  refine wpAny_mono (h s.heap s.heap.objs.size h₁ base fr p loose mean mg mb (fun fl s' => ∃ v, fl = .ret v ∧ Ends s P v s') rfl ⟨hns, hk₁, Nat.le_refl _⟩ (fun _ hp => nomatch hp) B X T ?_) (fun fl s' hl => ?_) fun _ _ x => x.elim
  · exact fun v h' m' tk' F hp => ⟨v, rfl, h', tk', rfl, F.keep, hp⟩
  · obtain ⟨v, rfl, hl⟩ := hl
    exact hl

theorem Cx.inner {g h : Heap} {L : Addr} {m : Str → Option Value} {base : Heap} {fr : List Env} {env : Env} {p : Program} {loose : List Str} {mean : ExcName → Option Value} {mg mb : Str → Option Value}
    (hh : A.handled = none) (B : Below A base fr g) (F : Fr g L h m) (X : (hd.heap_39 w.params).In g) (T : Top p loose mean mg mb g) (hf : env.frame = some L) (hk : env.scope.kind = .function) : Cx w (A.deeper env) h :=
  ⟨hh, ⟨_, _, _, _, _, T.keeps F.keep⟩, X.keeps F.keep, _, _, pushX B F hf hk⟩
theorem Rm.inner {n : Nat} {env : Env} (R : Rm A (n + 1)) : Rm (A.deeper env) n :=
  ⟨by have := R.d; show A.depth + 1 + n < _; omega, by have := R.u; show A.units + 3 + 8 * n < _; omega⟩
theorem Rm.le {n k : Nat} (R : Rm A n) (h : k ≤ n) : Rm A k := ⟨by have := R.d; omega, by have := R.u; omega⟩
end
theorem upd_same {m : Str → Option Value} {x : Str} {v : Value} (h : m x = some v) : (fun y => if y = x then some v else m y) = m := by
  funext y
  by_cases e : y = x
  · subst e; simp [h]
  · simp [e]
theorem News.keep {g h h' : Heap} {L : Addr} {news : List (Addr × Obj)} (N : News g L h news) (hk : Keep h h') : News g L h' news := fun p hp => ⟨hk _ _ (N p hp).1, (N p hp).2⟩

end Mine
end
-- MLoop
section
open PySem PySem.W PyProof.Rows PySem.Calls
set_option maxRecDepth 100000
set_option linter.unusedVariables false
namespace Mine

section
variable {prog : Program} {w : World} {A : Around} {s : Shared} {env : Env} {h₀ : Heap} {body : List Stmt} {Q : Flow → Shared → Prop}

/-- what stands behind a statement that goes on -/
noncomputable def On (s : Shared) (P : Heap → Prop) (f : Flow) (s' : Shared) : Prop := f = .next ∧ ∃ h' tk', 1 ≤ tk' ∧ s' = { s with heap := h', toks := tk' } ∧ P h'
theorem On.mk' {s : Shared} {P : Heap → Prop} {h' : Heap} {tk' : Nat} (ht : 1 ≤ tk') (p : P h') : On s P .next { s with heap := h', toks := tk' } := ⟨rfl, h', tk', ht, rfl, p⟩
theorem cutN {t : Sem Flow} {E : Value → Shared → Prop} (P : Heap → Prop) (h : wpAny (model prog w) A t (On s P) (fun _ _ => False) s)
    (k : ∀ h' tk', 1 ≤ tk' → P h' → Q .next { s with heap := h', toks := tk' }) : wpAny (model prog w) A t Q E s :=
  wpAny_mono h (fun f s' ⟨e, h', tk', ht, e', p⟩ => by subst e e'; exact k h' tk' ht p) fun _ _ e => e.elim

/-- a turn's end: the iterator I stands as it stood, J of the frame and the ledger -/
noncomputable def TurnE (h₀ : Heap) (L : Addr) (I : Addr) (oI : Obj) (J : (Str → Option Value) → List (Addr × Obj) → Prop) (s : Shared) (Q : Flow → Shared → Prop) (f : Flow) (s₂ : Shared) : Prop :=
  match f with
  | .ret v => Q (.ret v) s₂
  | .brk => Q .next s₂
  | _ => ∃ h' tk' m' news', s₂ = { s with heap := h', toks := tk' } ∧ Fr h₀ L h' m' ∧ News h₀ L h' ((I, oI) :: news') ∧ (∀ p ∈ news', p.1 ≠ I) ∧ J m' news'

theorem TurnE.next {L I : Addr} {oI : Obj} {J : (Str → Option Value) → List (Addr × Obj) → Prop} {h' : Heap} {tk' : Nat} {m' : Str → Option Value} {news' : List (Addr × Obj)}
    (F : Fr h₀ L h' m') (N : News h₀ L h' ((I, oI) :: news')) (hn : ∀ p ∈ news', p.1 ≠ I) (hJ : J m' news') : TurnE h₀ L I oI J s Q .next { s with heap := h', toks := tk' } := ⟨h', tk', m', news', rfl, F, N, hn, hJ⟩

theorem loopW {x : Str} {px : Pos} {I : Addr} {fp : List Addr} {n : Nat} {P : Nat → Value → Prop} {St : Nat → Heap → Prop} {m : Str → Option Value} {news : List (Addr × Obj)}
    (J : Nat → (Str → Option Value) → List (Addr × Obj) → Prop)
    (W : Walks prog w A I fp [I] n P St) (hsome : ∀ i h, St i h → ∃ o, h.get? I = some o) (hx : env.kindOf x = some .local) (hk : env.scope.kind = .function)
    (hI0 : h₀.get? I = none) (hLf : env.locals ∉ fp)
    (hax : ∀ b ∈ fp, b ≠ I → (∃ o, h₀.get? b = some o) ∨ ∃ o, ∀ i m news, J i m news → (b, o) ∈ news)
    (hst : St 0 s.heap) (F : Fr h₀ env.locals s.heap m) (N : News h₀ env.locals s.heap news) (hnI : ∀ p ∈ news, p.1 ≠ I) (ht : 1 ≤ s.toks) (h0 : J 0 m news)
    (turn : ∀ i v m₁ news₁ oI h tk, i < n → P i v → J i m₁ news₁ → (∀ p ∈ news₁, p.1 ≠ I) → 1 ≤ tk → Fr h₀ env.locals h (fun y => if y = x then some v else m₁ y) → News h₀ env.locals h ((I, oI) :: news₁) →
      wpAny (model prog w) A (execs body env) (TurnE h₀ env.locals I oI (J (i + 1)) { s with heap := h, toks := tk } Q) (fun _ _ => False) { s with heap := h, toks := tk })
    (done : ∀ h tk m₁ news₁, 1 ≤ tk → Fr h₀ env.locals h m₁ → News h₀ env.locals h news₁ → J n m₁ news₁ → Q .next { s with heap := h, toks := tk }) :
    codeAny (model prog w) A (.forLoop (.Name x px) (.ref I) body [] env) (fun r s' => match r with | .ok f => Q f s' | .error e => False) s := by
  have hp : (env.scope.kind == .class || (env.scope.kind == .module && env.locals != env.globals)) = false := by rw [hk]; rfl
  have hIf : I ∈ fp := W.sub I (List.mem_singleton.mpr rfl)
  have hLI : env.locals ≠ I := fun e => hLf (e ▸ hIf)
  refine codeAny_forLoop
    (fun k s' => ∃ h' tk m' news' i, s' = { s with heap := h', toks := tk } ∧ 1 ≤ tk ∧ St i h' ∧ Fr h₀ env.locals h' m' ∧ News h₀ env.locals h' news' ∧ (∀ p ∈ news', p.1 ≠ I) ∧ J i m' news' ∧ i ≤ n ∧ k = n + 1 - i) ?_ (n + 1)
    ⟨s.heap, s.toks, m, news, 0, rfl, ht, hst, F, N, hnI, h0, Nat.zero_le _, rfl⟩
  rintro k s' ⟨h', tk, m', news', i, rfl, htk, hst', F', N', hnw', hJ, hi, rfl⟩
  have next : ∀ h₁ : Heap, (∀ b o, b ∉ [I] → h'.get? b = some o → h₁.get? b = some o) → Fr h₀ env.locals h₁ m' ∧ News h₀ env.locals h₁ news' := fun h₁ hk₁ => by
    refine ⟨⟨F'.ns.at' fun o e => hk₁ _ o (by simpa using hLI) e, fun b o e => hk₁ b o (fun hb => ?_) (F'.keep b o e), F'.above⟩, fun p hp => ⟨hk₁ _ _ (by simpa using hnw' p hp) (N' p hp).1, (N' p hp).2⟩⟩
    rw [List.mem_singleton.mp hb, hI0] at e; cases e
  by_cases hlt : i < n
  · refine wpAny_with_toks (n := 1) htk (W.item i _ _ _ hlt hst' fun v h₁ tk₁ hP hst₁ hk₁ htk₁ => ?_)
    obtain ⟨F₁, N₁⟩ := next h₁ hk₁
    refine wpAny_assign_Name (wpAny_storeName_local hx F₁.ns (fun h₂ hn₂ hs₂ => ?_) hp)
    have F₂ := F₁.set hn₂ hs₂
    have N₂ := N₁.set hs₂
    have hst₂ : St (i + 1) h₂ := W.frame _ _ _ hst₁ fun b hb o e => (hs₂.2 b fun q => hLf (q ▸ hb)).trans e
    obtain ⟨oI, hoI⟩ := hsome _ _ hst₂
    have NI : News h₀ env.locals h₂ ((I, oI) :: news') := fun p hp => by
      rcases List.mem_cons.mp hp with rfl | hp
      · exact ⟨hoI, fun e => hLI e.symm, hI0⟩
      · exact N₂ p hp
    have step := turn i v m' news' oI h₂ (tk₁ + 1) hlt hP hJ hnw' (Nat.le_succ_of_le htk₁) F₂ NI
    have step' := wpAny_toks_of (n := 1) (Nat.le_succ_of_le htk₁) step
    refine wpAny_mono step' (fun f s₃ h₃ => ?_) fun _ _ e => e.2.elim
    obtain ⟨ht₃, h₃⟩ := h₃
    have back : (∃ h₄ tk₄ m₄ news₄, s₃ = { s with heap := h₄, toks := tk₄ } ∧ Fr h₀ env.locals h₄ m₄ ∧ News h₀ env.locals h₄ ((I, oI) :: news₄) ∧ (∀ p ∈ news₄, p.1 ≠ I) ∧ J (i + 1) m₄ news₄) →
        ∃ m_1, m_1 < n + 1 - i ∧ ∃ h' tk m' news' i, s₃ = { s with heap := h', toks := tk } ∧ 1 ≤ tk ∧ St i h' ∧ Fr h₀ env.locals h' m' ∧ News h₀ env.locals h' news' ∧ (∀ p ∈ news', p.1 ≠ I) ∧ J i m' news' ∧ i ≤ n ∧ m_1 = n + 1 - i := by
      rintro ⟨h₄, tk₄, m₄, news₄, rfl, F₄, N₄, hn₄, hJ₄⟩
      refine ⟨n + 1 - (i + 1), by omega, h₄, tk₄, m₄, news₄, i + 1, rfl, ht₃, ?_, F₄, (fun p hp => N₄ p (.tail _ hp)), hn₄, hJ₄, hlt, rfl⟩
      refine W.frame _ _ _ hst₂ fun b hb o e => ?_
      by_cases hbI : b = I
      · subst hbI
        rw [hoI] at e; cases e
        exact (N₄ _ (.head _)).1
      · rcases hax b hb hbI with ⟨o', ho'⟩ | ⟨o', ho'⟩
        · have := F₂.keep b o' ho'; rw [this] at e; cases e
          exact F₄.keep b _ ho'
        · have := (N₂ _ (ho' _ _ _ hJ)).1; rw [this] at e; cases e
          exact (N₄ _ (.tail _ (ho' _ _ _ hJ₄))).1
    cases f with
    | ret v => exact h₃
    | brk => exact h₃
    | cont => exact back h₃
    | next => exact back h₃
  · have hin : i = n := by omega
    subst hin
    refine wpAny_with_toks (n := 1) htk (W.done _ _ _ hst' fun h₁ tk₁ hk₁ htk₁ => wpAny_execs_nil ?_)
    obtain ⟨F₁, N₁⟩ := next h₁ hk₁
    exact done h₁ tk₁ m' news' htk₁ F₁ N₁ hJ

/-- a for loop, the number of made names known to be one at least -/
theorem forT {x : Str} {px pos : Pos} {iter : Expr} {E : Value → Shared → Prop} (ht : 1 ≤ s.toks)
    (h : wpAny (model prog w) A (eval iter env) (fun xv s₁ => 1 ≤ s₁.toks → wpAny (model prog w) A (pyIter xv) (fun it s₂ =>
      codeAny (model prog w) A (.forLoop (.Name x px) it body [] env) (fun r s' => match r with | .ok f => Q f s' | .error e => False) s₂) E s₁) E s)
    (hs : ∀ x, foldedSetIterable iter env x = pure x := by intro _; rfl) :
    wpAny (model prog w) A (exec (.For (.Name x px) iter body [] pos) env) Q E s := by
  refine wpAny_For (wpAny_mono (wpAny_toks_of ht h) (fun xv s₁ h₁ => wpAny_mono (h₁.2 h₁.1) (fun it s₂ h₂ => ?_) fun _ _ e => e) fun _ _ e => e.2) hs
  intro Γ p hc hb
  obtain ⟨r, s', hr, hR⟩ := h₂ Γ p hc hb
  refine ⟨r, s', hr, ?_⟩
  cases r with
  | ok f => exact hR
  | error e => exact hR.elim

/-- a for loop: what its iterator is -/
theorem forR {x : Str} {px pos : Pos} {iter : Expr} {E : Value → Shared → Prop}
    (h : wpAny (model prog w) A (eval iter env) (fun xv s₁ => wpAny (model prog w) A (pyIter xv) (fun it s₂ =>
      codeAny (model prog w) A (.forLoop (.Name x px) it body [] env) (fun r s' => match r with | .ok f => Q f s' | .error e => False) s₂) E s₁) E s)
    (hs : ∀ x, foldedSetIterable iter env x = pure x := by intro _; rfl) :
    wpAny (model prog w) A (exec (.For (.Name x px) iter body [] pos) env) Q E s := by
  refine wpAny_For (wpAny_mono h (fun xv s₁ h₁ => wpAny_mono h₁ (fun it s₂ h₂ => ?_) fun _ _ e => e) fun _ _ e => e) hs
  intro Γ p hc hb
  obtain ⟨r, s', hr, hR⟩ := h₂ Γ p hc hb
  refine ⟨r, s', hr, ?_⟩
  cases r with
  | ok f => exact hR
  | error e => exact hR.elim

/-- over a range -/
theorem iterRange {E : Value → Shared → Prop} {x : Str} {px : Pos} {r : Addr} {a b c : Int} {t u v : Tok} {n : Nat} {m : Str → Option Value} {news : List (Addr × Obj)}
    (J : Nat → (Str → Option Value) → List (Addr × Obj) → Prop)
    (hh : A.handled = none) (hx : env.kindOf x = some .local) (hk : env.scope.kind = .function)
    (hr : IsRange s.heap r a b c t u v) (hsmall : Builtin.Range.small a b c = true) (hn : Builtin.Range.rangeSize a b c = (n : Int))
    (F : Fr h₀ env.locals s.heap m) (N : News h₀ env.locals s.heap news) (ht : 1 ≤ s.toks) (h0 : J 0 m news)
    (turn : ∀ i t m₁ news₁ I oI h tk, i < n → J i m₁ news₁ → (∀ p ∈ news₁, p.1 ≠ I) → 1 ≤ tk → Fr h₀ env.locals h (fun y => if y = x then some (.int (a + (i : Int) * c) t) else m₁ y) → News h₀ env.locals h ((I, oI) :: news₁) →
      wpAny (model prog w) A (execs body env) (TurnE h₀ env.locals I oI (J (i + 1)) { s with heap := h, toks := tk } Q) (fun _ _ => False) { s with heap := h, toks := tk })
    (done : ∀ h tk m₁ news₁, 1 ≤ tk → Fr h₀ env.locals h m₁ → News h₀ env.locals h news₁ → J n m₁ news₁ → Q .next { s with heap := h, toks := tk }) :
    wpAny (model prog w) A (pyIter (.ref r)) (fun it s₂ => codeAny (model prog w) A (.forLoop (.Name x px) it body [] env) (fun r s' => match r with | .ok f => Q f s' | .error e => False) s₂) E s := by
  refine wpAny_pyIter_range hr hsmall ?_
  have hI0 : h₀.get? s.heap.objs.size = none := next_is_new F
  refine loopW (St := fun i h => IsRangeIter h s.heap.objs.size (a + (i : Nat) * c) ((n : Int) - (i : Nat)) c) J (Walks.range hh _ a c n) (fun i h st => ⟨_, st⟩) hx hk hI0 ?_ ?_ (by rw [hn]; simpa using Heap.get?_push_size _ rfl) (F.push _) (fun p hp => ⟨Heap.get?_push_of_some _ (N p hp).1, (N p hp).2⟩) ?_ ht h0 ?_ ?_
  · intro hm; exact absurd F.ns.lt ((List.mem_singleton.mp hm) ▸ Nat.lt_irrefl _)
  · intro b hb hn; exact absurd (List.mem_singleton.mp hb) hn
  · intro p hp e; exact absurd (Heap.lt_size (N p hp).1) (e ▸ Nat.lt_irrefl _)
  · rintro i v m₁ news₁ oI h tk hi ⟨t, rfl⟩ hJ hn ht F N
    exact turn i t m₁ news₁ _ oI h tk hi hJ hn ht F N
  · exact done

theorem iterUp {E : Value → Shared → Prop} {x : Str} {px : Pos} {r : Addr} {a b : Int} {t u v : Tok} {m : Str → Option Value} {news : List (Addr × Obj)} (n : Nat)
    (J : Nat → (Str → Option Value) → List (Addr × Obj) → Prop)
    (hh : A.handled = none) (hx : env.kindOf x = some .local) (hk : env.scope.kind = .function)
    (hr : IsRange s.heap r a b 1 t u v) (ha : -(2 ^ 62) ≤ a) (ha' : a < 2 ^ 62) (hb : -(2 ^ 62) ≤ b) (hb' : b < 2 ^ 62) (hn : n = (b - a).toNat)
    (F : Fr h₀ env.locals s.heap m) (N : News h₀ env.locals s.heap news) (ht : 1 ≤ s.toks) (h0 : J 0 m news)
    (turn : ∀ i t m₁ news₁ I oI h tk, i < n → J i m₁ news₁ → (∀ p ∈ news₁, p.1 ≠ I) → 1 ≤ tk → Fr h₀ env.locals h (fun y => if y = x then some (.int (a + (i : Int)) t) else m₁ y) → News h₀ env.locals h ((I, oI) :: news₁) →
      wpAny (model prog w) A (execs body env) (TurnE h₀ env.locals I oI (J (i + 1)) { s with heap := h, toks := tk } Q) (fun _ _ => False) { s with heap := h, toks := tk })
    (done : ∀ h tk m₁ news₁, 1 ≤ tk → Fr h₀ env.locals h m₁ → News h₀ env.locals h news₁ → J n m₁ news₁ → Q .next { s with heap := h, toks := tk }) :
    wpAny (model prog w) A (pyIter (.ref r)) (fun it s₂ => codeAny (model prog w) A (.forLoop (.Name x px) it body [] env) (fun r s' => match r with | .ok f => Q f s' | .error e => False) s₂) E s :=
  iterRange J hh hx hk hr (small_one ha ha' hb hb') (by rw [rangeSize_nat, hn]) F N ht h0 (fun i t m₁ news₁ I oI h tk hi hJ hI htk F N => turn i t m₁ news₁ I oI h tk hi hJ hI htk (by rw [Int.mul_one] at F; exact F) N) done
theorem iterDown {E : Value → Shared → Prop} {x : Str} {px : Pos} {r : Addr} {a b : Int} {t u v : Tok} {m : Str → Option Value} {news : List (Addr × Obj)} (n : Nat)
    (J : Nat → (Str → Option Value) → List (Addr × Obj) → Prop)
    (hh : A.handled = none) (hx : env.kindOf x = some .local) (hk : env.scope.kind = .function)
    (hr : IsRange s.heap r a b (-1) t u v) (ha : -(2 ^ 62) ≤ a) (ha' : a < 2 ^ 62) (hb : -(2 ^ 62) ≤ b) (hb' : b < 2 ^ 62) (hn : n = (a - b).toNat)
    (F : Fr h₀ env.locals s.heap m) (N : News h₀ env.locals s.heap news) (ht : 1 ≤ s.toks) (h0 : J 0 m news)
    (turn : ∀ i t m₁ news₁ I oI h tk, i < n → J i m₁ news₁ → (∀ p ∈ news₁, p.1 ≠ I) → 1 ≤ tk → Fr h₀ env.locals h (fun y => if y = x then some (.int (a - (i : Int)) t) else m₁ y) → News h₀ env.locals h ((I, oI) :: news₁) →
      wpAny (model prog w) A (execs body env) (TurnE h₀ env.locals I oI (J (i + 1)) { s with heap := h, toks := tk } Q) (fun _ _ => False) { s with heap := h, toks := tk })
    (done : ∀ h tk m₁ news₁, 1 ≤ tk → Fr h₀ env.locals h m₁ → News h₀ env.locals h news₁ → J n m₁ news₁ → Q .next { s with heap := h, toks := tk }) :
    wpAny (model prog w) A (pyIter (.ref r)) (fun it s₂ => codeAny (model prog w) A (.forLoop (.Name x px) it body [] env) (fun r s' => match r with | .ok f => Q f s' | .error e => False) s₂) E s :=
  iterRange J hh hx hk hr (small_down ha ha' hb hb') (by rw [rangeSize_downNat, hn]) F N ht h0 (fun i t m₁ news₁ I oI h tk hi hJ hI htk F N => turn i t m₁ news₁ I oI h tk hi hJ hI htk (by
    have e : a + (i : Int) * -1 = a - (i : Int) := by omega
    rw [e] at F; exact F) N) done

/-- over a list -/
theorem iterList {E : Value → Shared → Prop} {x : Str} {px : Pos} {l : Addr} {vs : List Value} {m : Str → Option Value} {news : List (Addr × Obj)}
    (J : Nat → (Str → Option Value) → List (Addr × Obj) → Prop)
    (hh : A.handled = none) (hx : env.kindOf x = some .local) (hk : env.scope.kind = .function)
    (hl : s.heap.IsList l vs.toArray) (hlL : l ≠ env.locals) (hax : (∃ o, h₀.get? l = some o) ∨ ∃ o, ∀ i m news, J i m news → (l, o) ∈ news)
    (F : Fr h₀ env.locals s.heap m) (N : News h₀ env.locals s.heap news) (ht : 1 ≤ s.toks) (h0 : J 0 m news)
    (turn : ∀ i v m₁ news₁ I oI h tk, vs[i]? = some v → J i m₁ news₁ → (∀ p ∈ news₁, p.1 ≠ I) → 1 ≤ tk → Fr h₀ env.locals h (fun y => if y = x then some v else m₁ y) → News h₀ env.locals h ((I, oI) :: news₁) →
      wpAny (model prog w) A (execs body env) (TurnE h₀ env.locals I oI (J (i + 1)) { s with heap := h, toks := tk } Q) (fun _ _ => False) { s with heap := h, toks := tk })
    (done : ∀ h tk m₁ news₁, 1 ≤ tk → Fr h₀ env.locals h m₁ → News h₀ env.locals h news₁ → J vs.length m₁ news₁ → Q .next { s with heap := h, toks := tk }) :
    wpAny (model prog w) A (pyIter (.ref l)) (fun it s₂ => codeAny (model prog w) A (.forLoop (.Name x px) it body [] env) (fun r s' => match r with | .ok f => Q f s' | .error e => False) s₂) E s := by
  obtain ⟨ol, hol, hol2⟩ := id hl
  have hlt : l < s.heap.objs.size := Heap.lt_size hol
  have hne : l ≠ s.heap.objs.size := Nat.ne_of_lt hlt
  refine wpAny_pyIter_list hl ?_
  have hI0 : h₀.get? s.heap.objs.size = none := next_is_new F
  have W := Walks.list (prog := prog) (w := w) hh s.heap.objs.size l hne vs.toArray
  rw [List.size_toArray] at W
  refine loopW J W (fun i h st => let ⟨o, ho, _⟩ := st.1; ⟨o, ho⟩) hx hk hI0 ?_ ?_ ⟨⟨_, Heap.get?_push_size _ rfl, rfl, rfl⟩, ⟨ol, Heap.get?_push_of_some _ hol, hol2⟩⟩ (F.push _) (fun p hp => ⟨Heap.get?_push_of_some _ (N p hp).1, (N p hp).2⟩) ?_ ht h0 ?_ done
  · intro hm
    rcases List.mem_cons.mp hm with e | hm
    · exact absurd F.ns.lt (e ▸ Nat.lt_irrefl _)
    · exact hlL (List.mem_singleton.mp hm).symm
  · intro b hb hn
    rcases List.mem_cons.mp hb with e | hm
    · exact absurd e hn
    · rw [List.mem_singleton.mp hm]; exact hax
  · intro p hp e; exact absurd (Heap.lt_size (N p hp).1) (e ▸ Nat.lt_irrefl _)
  · rintro i v m₁ news₁ oI h tk hi hP hJ hn ht F N
    exact turn i v m₁ news₁ _ oI h tk (by simpa using hP) hJ hn ht F N

/-- over a text -/
theorem iterStr {E : Value → Shared → Prop} {x : Str} {px : Pos} {y : Str} {t : Tok} {m : Str → Option Value} {news : List (Addr × Obj)}
    (J : Nat → (Str → Option Value) → List (Addr × Obj) → Prop)
    (hh : A.handled = none) (hx : env.kindOf x = some .local) (hk : env.scope.kind = .function)
    (F : Fr h₀ env.locals s.heap m) (N : News h₀ env.locals s.heap news) (ht : 1 ≤ s.toks) (h0 : J 0 m news)
    (turn : ∀ i c u m₁ news₁ I oI h tk, y.cps[i]? = some c → J i m₁ news₁ → (∀ p ∈ news₁, p.1 ≠ I) → 1 ≤ tk → Fr h₀ env.locals h (fun z => if z = x then some (.str ⟨#[c]⟩ u) else m₁ z) → News h₀ env.locals h ((I, oI) :: news₁) →
      wpAny (model prog w) A (execs body env) (TurnE h₀ env.locals I oI (J (i + 1)) { s with heap := h, toks := tk } Q) (fun _ _ => False) { s with heap := h, toks := tk })
    (done : ∀ h tk m₁ news₁, 1 ≤ tk → Fr h₀ env.locals h m₁ → News h₀ env.locals h news₁ → J y.cps.size m₁ news₁ → Q .next { s with heap := h, toks := tk }) :
    wpAny (model prog w) A (pyIter (.str y t)) (fun it s₂ => codeAny (model prog w) A (.forLoop (.Name x px) it body [] env) (fun r s' => match r with | .ok f => Q f s' | .error e => False) s₂) E s := by
  have hI0 : h₀.get? s.heap.objs.size = none := next_is_new F
  have go : ∀ (cls : String) , (Walks prog w A s.heap.objs.size [s.heap.objs.size] [s.heap.objs.size] y.cps.size (SignAt y) (fun i h => h.IsStrIter s.heap.objs.size cls y t i)) →
      codeAny (model prog w) A (.forLoop (.Name x px) (.ref s.heap.objs.size) body [] env) (fun r s' => match r with | .ok f => Q f s' | .error e => False)
        { s with heap := s.heap.push { cls := .type cls, data := .fields #[.str y t, .int 0 0] } } := by
    intro cls W
    refine loopW J W (fun i h st => let ⟨o, ho, _⟩ := st; ⟨o, ho⟩) hx hk hI0 ?_ ?_ ⟨_, Heap.get?_push_size _ rfl, rfl, rfl⟩ (F.push _) (fun p hp => ⟨Heap.get?_push_of_some _ (N p hp).1, (N p hp).2⟩) ?_ ht h0 ?_ done
    · intro hm; exact absurd F.ns.lt ((List.mem_singleton.mp hm) ▸ Nat.lt_irrefl _)
    · intro b hb hn; exact absurd (List.mem_singleton.mp hb) hn
    · intro p hp e; exact absurd (Heap.lt_size (N p hp).1) (e ▸ Nat.lt_irrefl _)
    · rintro i v m₁ news₁ oI h tk hi ⟨c, u, hc, rfl⟩ hJ hn ht F N
      exact turn i c u m₁ news₁ _ oI h tk hc hJ hn ht F N
  cases ha : y.cps.all (· < 128)
  · exact wpAny_pyIter_wide ha (go "str_iterator" (Walks.strWide hh _ y t))
  · exact wpAny_pyIter_ascii ha (go "str_ascii_iterator" (Walks.strAscii hh _ y t))

/-- a while loop -/
noncomputable def TurnW (h₀ : Heap) (L : Addr) (J : Nat → (Str → Option Value) → List (Addr × Obj) → Prop) (n : Nat) (s : Shared) (Q : Flow → Shared → Prop) (f : Flow) (s₂ : Shared) : Prop :=
  match f with
  | .ret v => Q (.ret v) s₂
  | .brk => Q .next s₂
  | _ => ∃ h' tk' m' news' n', s₂ = { s with heap := h', toks := tk' } ∧ Fr h₀ L h' m' ∧ News h₀ L h' news' ∧ n' < n ∧ J n' m' news'

theorem whileR {test : Expr} {pos : Pos} {m : Str → Option Value} {news : List (Addr × Obj)} (J : Nat → (Str → Option Value) → List (Addr × Obj) → Prop) (n₀ : Nat) {E : Value → Shared → Prop}
    (F : Fr h₀ env.locals s.heap m) (N : News h₀ env.locals s.heap news) (ht : 1 ≤ s.toks) (hJ : J n₀ m news)
    (turn : ∀ n m₁ news₁ h tk, 1 ≤ tk → Fr h₀ env.locals h m₁ → News h₀ env.locals h news₁ → J n m₁ news₁ →
      wpAny (model prog w) A (isTrue test env (eval test env)) (fun b s₂ =>
        if b = true then wpAny (model prog w) A (execs body env) (TurnW h₀ env.locals J n s Q) (fun _ _ => False) s₂ else Q .next s₂) (fun _ _ => False) { s with heap := h, toks := tk }) :
    wpAny (model prog w) A (exec (.While test body [] pos) env) Q E s := by
  refine wpAny_noRaise (wpAny_While (codeAny_whileLoop (fun n s' => ∃ h₁ tk₁ m₁ news₁, s' = { s with heap := h₁, toks := tk₁ } ∧ 1 ≤ tk₁ ∧ Fr h₀ env.locals h₁ m₁ ∧ News h₀ env.locals h₁ news₁ ∧ J n m₁ news₁) ?_ n₀ ⟨s.heap, s.toks, m, news, rfl, ht, F, N, hJ⟩))
  rintro n s' ⟨h₁, tk₁, m₁, news₁, rfl, htk, F₁, N₁, J₁⟩
  refine wpAny_mono (wpAny_toks_of (n := 1) htk (turn n m₁ news₁ h₁ tk₁ htk F₁ N₁ J₁)) (fun b s₂ h₂ => ?_) fun _ _ e => e.2.elim
  obtain ⟨ht₂, h₂⟩ := h₂
  cases b with
  | false =>
    simp only [Bool.false_eq_true, if_false] at h₂ ⊢
    exact wpAny_execs_nil h₂
  | true =>
    simp only [if_true] at h₂ ⊢
    refine wpAny_mono (wpAny_toks_of (n := 1) ht₂ h₂) (fun f s₃ h₃ => ?_) fun _ _ e => e.2.elim
    obtain ⟨ht₃, h₃⟩ := h₃
    cases f with
    | next =>
      obtain ⟨h', tk, m₂, news₂, n', rfl, F₂, N₂, hn, J₂⟩ := h₃
      exact ⟨n', hn, h', tk, m₂, news₂, rfl, ht₃, F₂, N₂, J₂⟩
    | cont =>
      obtain ⟨h', tk, m₂, news₂, n', rfl, F₂, N₂, hn, J₂⟩ := h₃
      exact ⟨n', hn, h', tk, m₂, news₂, rfl, ht₃, F₂, N₂, J₂⟩
    | brk => exact h₃
    | ret v => exact h₃
end
end Mine
end
-- MStr
section
open PySem PySem.W PyProof.Rows PySem.Calls
set_option linter.unusedVariables false
namespace Mine

/-- a text by its signs' numbers -/
noncomputable def S (l : List Nat) : Str := ⟨l.toArray⟩

theorem S_list (l : List Nat) : (S l).cps.toList = l := rfl
theorem S_cps (l : List Nat) : (S l).cps = l.toArray := rfl
theorem S_of (x : Str) : S x.cps.toList = x := by cases x; simp [S]
theorem S_len (l : List Nat) : (S l).length = l.length := by simp [S, Str.length]
theorem S_size (l : List Nat) : (S l).cps.size = l.length := by simp [S]
theorem S_add (a b : List Nat) : S a ++ S b = S (a ++ b) := by
  apply Str.ext'; simp [S, Str.cps_append]
theorem S_inj {a b : List Nat} : S a = S b ↔ a = b := by
  constructor
  · intro h; have := congrArg (fun x : Str => x.cps.toList) h; simpa [S_list] using this
  · rintro rfl; rfl
theorem S_eqb (a b : List Nat) : (S a == S b) = decide (a = b) := by
  rw [Bool.eq_iff_iff]; simp [S_inj]
theorem S_empty : Str.empty = S [] := rfl

theorem lit_ext {x : Str} {l : List Nat} (h : x.cps.toList = l) : x = S l := by subst h; exact (S_of x).symm

theorem foldl_cat (ls : List (Array Nat)) : ∀ acc : Array Nat, (ls.foldl (· ++ ·) acc).toList = acc.toList ++ (ls.map (·.toList)).flatten := by
  induction ls with
  | nil => simp
  | cons a r ih => intro acc; rw [List.foldl_cons, ih]; simp
theorem mul_S (l : List Nat) (n : Int) : Txt.mul (S l) n = S (List.replicate n.toNat l).flatten := by
  unfold Txt.mul
  by_cases h1 : n < 1
  · rw [if_pos h1]
    have : n.toNat = 0 := by omega
    rw [this]; rfl
  · rw [if_neg h1]
    split
    · rename_i h
      rcases Bool.or_eq_true_iff.mp h with h | h
      · have : n = 1 := beq_iff_eq.mp h
        subst this; simp
      · have h0 : l = [] := by
          have := beq_iff_eq.mp h
          rw [S_len] at this
          exact List.length_eq_zero_iff.mp this
        subst h0
        apply congrArg
        induction n.toNat with
        | zero => rfl
        | succ k ih => rw [List.replicate_succ, List.flatten_cons, ← ih]; rfl
    · apply lit_ext
      rw [foldl_cat]
      simp [S]

theorem idx_clip (a b n : Nat) : Builtin.Str.strSliceIndices (some (a : Int)) (some (b : Int)) 1 n = Builtin.Str.strSliceIndices (some ((min a n : Nat) : Int)) (some ((min b n : Nat) : Int)) 1 n := by
  unfold Builtin.Str.strSliceIndices
  dsimp only
  have h1 : ¬ ((a : Int) < 0) := by omega
  have h2 : ¬ ((b : Int) < 0) := by omega
  have h3 : ¬ (((min a n : Nat) : Int) < 0) := by omega
  have h4 : ¬ (((min b n : Nat) : Int) < 0) := by omega
  have e1 : max (0 : Int) (min (a : Int) n) = max 0 (min ((min a n : Nat) : Int) n) := by omega
  have e2 : max (0 : Int) (min (b : Int) n) = max 0 (min ((min b n : Nat) : Int) n) := by omega
  simp only [h1, h2, h3, h4, if_false, show ((1 : Int) > 0) = True from by simp, if_true, e1, e2]

theorem slice_nat (x : Str) (a b : Nat) : Txt.slice x (some (a : Int)) (some (b : Int)) = S ((x.cps.toList.take b).drop a) := by
  have e0 : Txt.slice x (some (a : Int)) (some (b : Int)) = Txt.slice x (some ((min a x.length : Nat) : Int)) (some ((min b x.length : Nat) : Int)) := by
    unfold Txt.slice
    rw [idx_clip]
  have hlen : x.cps.toList.length = x.length := by simp [Str.length]
  rw [e0]
  by_cases h : min a x.length ≤ min b x.length
  · refine (StrLaws.sliceText_nat x h (Nat.min_le_right _ _)).trans ?_
    apply lit_ext
    show (List.take _ (List.drop _ x.cps.toList)) = _
    rw [List.drop_take]
    rcases Nat.le_total a x.length with h1 | h1
    · rw [Nat.min_eq_left h1]
      rcases Nat.le_total b x.length with h2 | h2
      · rw [Nat.min_eq_left h2]
      · rw [Nat.min_eq_right h2, List.take_of_length_le (by rw [List.length_drop, hlen]; omega), List.take_of_length_le (by rw [List.length_drop, hlen]; omega)]
    · rw [Nat.min_eq_right h1, List.drop_of_length_le (l := x.cps.toList) (by omega), List.drop_of_length_le (l := x.cps.toList) (by omega)]; simp
  · unfold Txt.slice
    have hlt : ¬ ((((min a x.length : Nat) : Int)) < ((min b x.length : Nat) : Int)) := by omega
    have en : Builtin.Str.strSliceIndices (some ((min a x.length : Nat) : Int)) (some ((min b x.length : Nat) : Int)) 1 x.length = [] := by
      unfold Builtin.Str.strSliceIndices sliceRange
      dsimp only
      have h3 : ¬ (((min a x.length : Nat) : Int) < 0) := by omega
      have h4 : ¬ (((min b x.length : Nat) : Int) < 0) := by omega
      have e1 : max (0 : Int) (min (((min a x.length : Nat) : Int)) x.length) = ((min a x.length : Nat) : Int) := by omega
      have e2 : max (0 : Int) (min (((min b x.length : Nat) : Int)) x.length) = ((min b x.length : Nat) : Int) := by omega
      simp only [h3, h4, if_false, show ((1 : Int) > 0) = True from by simp, if_true, e1, e2, hlt]
      rfl
    rw [en]
    have hx : x.length ≠ 0 := by omega
    have hb : ((1 : Int) == 1 && ([] : List Nat).length == x.length) = false := by
      have : (([] : List Nat).length == x.length) = false := by simpa using fun e => hx e.symm
      rw [this]; rfl
    rw [hb]
    apply lit_ext
    have : (List.take b x.cps.toList).drop a = [] := List.drop_of_length_le (by rw [List.length_take, hlen]; omega)
    rw [this]; rfl
theorem slice_to (x : Str) (b : Nat) : Txt.slice x none (some (b : Int)) = S (x.cps.toList.take b) := by
  have : Txt.slice x none (some (b : Int)) = Txt.slice x (some ((0 : Nat) : Int)) (some (b : Int)) := by unfold Txt.slice; rw [StrLaws.sliceIdx_none_lo]; rfl
  rw [this, slice_nat]; rfl
theorem slice_from (x : Str) (a : Nat) : Txt.slice x (some (a : Int)) none = S (x.cps.toList.drop a) := by
  have : Txt.slice x (some (a : Int)) none = Txt.slice x (some (a : Int)) (some ((x.length : Nat) : Int)) := by unfold Txt.slice; rw [StrLaws.sliceIdx_none_hi]
  rw [this, slice_nat]
  congr 2
  exact List.take_of_length_le (by simp [Str.length])

theorem item_S (l : List Nat) (i : Nat) (h : i < l.length) : Txt.item (S l) (i : Int) = S [l[i]] := by
  unfold Txt.item Txt.charAt
  have : (seqIndex? (i : Int) (S l).length).bind ((S l).cps[·]?) = some l[i] := StrLaws.at_nonneg (by omega) (by simp [S, h])
  rw [this]; rfl

/-- each sign c turned to z -/
noncomputable def sub1 (c : Nat) (z : List Nat) (l : List Nat) : List Nat := l.flatMap fun k => if k = c then z else [k]
theorem sub1_append (c : Nat) (z a b : List Nat) : sub1 c z (a ++ b) = sub1 c z a ++ sub1 c z b := by simp [sub1]
theorem sub1_free (c : Nat) (z : List Nat) : ∀ l : List Nat, c ∉ l → sub1 c z l = l
  | [], _ => rfl
  | k :: r, h => by
    have h1 : ¬ k = c := fun e => h (e ▸ List.mem_cons_self ..)
    have h2 : c ∉ r := fun m => h (List.mem_cons_of_mem _ m)
    show (if k = c then z else [k]) ++ sub1 c z r = _
    rw [if_neg h1, sub1_free c z r h2]; rfl
theorem sub1_join (c : Nat) (z : List Nat) : ∀ parts : List Str, (∀ p ∈ parts, c ∉ p.cps.toList) → sub1 c z (Str.join ⟨#[c]⟩ parts).cps.toList = (Str.join (S z) parts).cps.toList
  | [], _ => rfl
  | [p], h => sub1_free c z _ (h p (List.mem_singleton.mpr rfl))
  | p :: q :: r, h => by
    have ih := sub1_join c z (q :: r) fun a ha => h a (List.mem_cons_of_mem _ ha)
    show sub1 c z (p ++ ⟨#[c]⟩ ++ Str.join ⟨#[c]⟩ (q :: r)).cps.toList = (p ++ S z ++ Str.join (S z) (q :: r)).cps.toList
    simp only [Str.cps_append, Array.toList_append]
    rw [sub1_append, sub1_append, ih, sub1_free c z _ (h p (List.mem_cons_self ..))]
    have : sub1 c z [c] = z := by simp [sub1]
    show p.cps.toList ++ sub1 c z [c] ++ _ = _
    rw [this]; rfl
theorem replace_S (l : List Nat) (c : Nat) (z : List Nat) : Txt.replace (S l) (S [c]) (S z) = S (sub1 c z l) := by
  apply lit_ext
  show (Txt.replace (S l) ⟨#[c]⟩ (S z)).cps.toList = _
  rw [StrLaws.replace_one, ← sub1_join c z _ (StrLaws.split_free (S l) c), StrLaws.join_split]
  rfl

theorem in_S (l : List Nat) (c : Nat) : (Builtin.Str.occurrences (S l) (S [c]) 0 (S l).length 1).isEmpty = !decide (c ∈ l) := empty_one (S l) c

/-- how often c stands in l -/
noncomputable def cn (c : Nat) (l : List Nat) : Nat := l.count c
theorem count_S (l : List Nat) (c : Nat) : Txt.count (S l) (S [c]) = (l.count c : Nat) := by
  show Txt.count (S l) ⟨#[c]⟩ = _
  rw [count_cnt]
  show cnt c l = _
  induction l with
  | nil => rfl
  | cons k r ih =>
    rw [cnt_cons, ih, List.count_cons]
    by_cases h : k = c
    · subst h; simp; omega
    · simp [h]
end Mine
end
-- MTree
section
open PySem PySem.W PyProof.Rows PySem.Calls
set_option maxRecDepth 100000
set_option linter.unusedVariables false
namespace Mine

/-- a node: a tuple of a depth and a sign -/
noncomputable def TupAt (h : Heap) (v : Value) (nd : Nat × Nat) : Prop := ∃ b t1 t2, v = .ref b ∧ IsTup h b #[.int (nd.1 : Int) t1, .str (S [nd.2]) t2]
inductive NodesAt (h : Heap) : List Value → List (Nat × Nat) → Prop
  | nil : NodesAt h [] []
  | cons {v vs nd nds} : TupAt h v nd → NodesAt h vs nds → NodesAt h (v :: vs) (nd :: nds)
/-- a list of nodes -/
noncomputable def TreeAt (h : Heap) (a : Addr) (t : List (Nat × Nat)) : Prop := ∃ vs, h.IsList a vs.toArray ∧ NodesAt h vs t

theorem TupAt.keep {h h' : Heap} {v : Value} {nd : Nat × Nat} (x : TupAt h v nd) (k : Keep h h') : TupAt h' v nd := let ⟨b, t1, t2, e, i⟩ := x; ⟨b, t1, t2, e, i.keeps k⟩
theorem NodesAt.keep {h h' : Heap} (k : Keep h h') : ∀ {vs : List Value} {t : List (Nat × Nat)}, NodesAt h vs t → NodesAt h' vs t
  | _, _, .nil => .nil
  | _, _, .cons a r => .cons (a.keep k) (r.keep k)
theorem isList_keep {h h' : Heap} {a : Addr} {its : Array Value} (x : h.IsList a its) (k : Keep h h') : h'.IsList a its := x.at fun o e => k a o e
theorem TreeAt.keep {h h' : Heap} {a : Addr} {t : List (Nat × Nat)} (x : TreeAt h a t) (k : Keep h h') : TreeAt h' a t := let ⟨vs, l, n⟩ := x; ⟨vs, isList_keep l k, n.keep k⟩
theorem NodesAt.length {h : Heap} : ∀ {vs : List Value} {t : List (Nat × Nat)}, NodesAt h vs t → vs.length = t.length
  | _, _, .nil => rfl
  | _, _, .cons _ r => congrArg (· + 1) r.length
theorem NodesAt.get {h : Heap} : ∀ {vs : List Value} {t : List (Nat × Nat)} (_ : NodesAt h vs t) {i : Nat} {nd : Nat × Nat}, t[i]? = some nd → ∃ v, vs[i]? = some v ∧ TupAt h v nd
  | _, _, .cons a _, 0, _, e => ⟨_, rfl, by cases e; exact a⟩
  | _, _, .cons _ r, i + 1, _, e => r.get (i := i) (by simpa using e)
theorem NodesAt.getV {h : Heap} : ∀ {vs : List Value} {t : List (Nat × Nat)} (_ : NodesAt h vs t) {i : Nat} {v : Value}, vs[i]? = some v → ∃ nd, t[i]? = some nd ∧ TupAt h v nd
  | _, _, .cons a _, 0, _, e => ⟨_, rfl, by cases e; exact a⟩
  | _, _, .cons _ r, i + 1, _, e => r.getV (i := i) (by simpa using e)
theorem NodesAt.drop {h : Heap} : ∀ {vs : List Value} {t : List (Nat × Nat)} (_ : NodesAt h vs t) (i : Nat), NodesAt h (vs.drop i) (t.drop i)
  | _, _, x, 0 => x
  | _, _, .nil, i + 1 => .nil
  | _, _, .cons _ r, i + 1 => r.drop i
theorem NodesAt.take {h : Heap} : ∀ {vs : List Value} {t : List (Nat × Nat)} (_ : NodesAt h vs t) (i : Nat), NodesAt h (vs.take i) (t.take i)
  | _, _, _, 0 => .nil
  | _, _, .nil, i + 1 => .nil
  | _, _, .cons a r, i + 1 => .cons a (r.take i)
theorem NodesAt.append {h : Heap} : ∀ {vs ws : List Value} {t u : List (Nat × Nat)} (_ : NodesAt h vs t) (_ : NodesAt h ws u), NodesAt h (vs ++ ws) (t ++ u)
  | _, _, _, _, .nil, y => y
  | _, _, _, _, .cons a r, y => .cons a (r.append y)

theorem takeWhile_all {α : Type} {p : α → Bool} : ∀ {l : List α}, (∀ x ∈ l, p x = true) → l.takeWhile p = l
  | [], _ => rfl
  | a :: r, h => by rw [List.takeWhile_cons, h a (.head _), if_pos rfl, takeWhile_all fun x hx => h x (.tail _ hx)]
theorem takeWhile_at {α : Type} {p : α → Bool} : ∀ {l : List α} {j : Nat} {x : α}, (∀ y ∈ l.take j, p y = true) → l[j]? = some x → p x = false → l.takeWhile p = l.take j
  | [], j, x, _, e, _ => by simp at e
  | a :: r, 0, x, _, e, hx => by
    have : a = x := by simpa using e
    rw [List.takeWhile_cons, this, hx]; rfl
  | a :: r, j + 1, x, h, e, hx => by
    rw [List.takeWhile_cons, h a (by simp), if_pos rfl, List.take_succ_cons, takeWhile_at (l := r) (j := j) (fun y hy => h y (by rw [List.take_succ_cons]; exact .tail _ hy)) (by simpa using e) hx]
theorem pick_from (vs : List Value) (x : Int) (h : 0 ≤ x) : (slicePick vs.toArray (some x) none none).toList = vs.drop x.toNat := by
  have e : sliceBounds (some x) none none vs.toArray.size = (((min x.toNat vs.toArray.size : Nat) : Int), ((vs.toArray.size : Nat) : Int), 1) := by
    simp only [sliceBounds, Option.getD_none, show (1 : Int) > 0 by decide, if_true, if_neg (show ¬ (x < 0) by omega)]
    congr 1
    omega
  rw [kmk_pick_nat _ e]
  show ((vs.drop (min x.toNat vs.toArray.size)).take (vs.toArray.size - min x.toNat vs.toArray.size)) = _
  rw [List.size_toArray, kmk_drop_min, List.take_of_length_le (by rw [List.length_drop]; omega)]
theorem pick_upto (vs : List Value) (y : Int) (h : 0 ≤ y) : (slicePick vs.toArray none (some y) none).toList = vs.take y.toNat := by
  have e : sliceBounds none (some y) none vs.toArray.size = (((0 : Nat) : Int), ((min y.toNat vs.toArray.size : Nat) : Int), 1) := by
    simp only [sliceBounds, Option.getD_none, show (1 : Int) > 0 by decide, if_true, if_neg (show ¬ (y < 0) by omega)]
    congr 1
    congr 1
    omega
  rw [kmk_pick_nat _ e]
  show ((vs.drop 0).take (min y.toNat vs.toArray.size - 0)) = _
  rw [List.drop_zero, Nat.sub_zero, List.size_toArray, kmk_take_min]
theorem pick_init (vs : List Value) : (slicePick vs.toArray none (some (-1)) none).toList = vs.take (vs.length - 1) := by
  have e : sliceBounds none (some (-1)) none vs.toArray.size = (((0 : Nat) : Int), ((vs.toArray.size - 1 : Nat) : Int), 1) := by
    simp only [sliceBounds, Option.getD_none, show (1 : Int) > 0 by decide, if_true, if_pos (show ((-1 : Int) < 0) by omega)]
    congr 1
    congr 1
    omega
  rw [kmk_pick_nat _ e]
  show ((vs.drop 0).take (vs.toArray.size - 1 - 0)) = _
  rw [List.drop_zero, Nat.sub_zero, List.size_toArray]
theorem pick_last (vs : List Value) : (slicePick vs.toArray (some (-1)) none none).toList = vs.drop (vs.length - 1) := by
  have e : sliceBounds (some (-1)) none none vs.toArray.size = (((vs.toArray.size - 1 : Nat) : Int), ((vs.toArray.size : Nat) : Int), 1) := by
    simp only [sliceBounds, Option.getD_none, show (1 : Int) > 0 by decide, if_true, if_pos (show ((-1 : Int) < 0) by omega)]
    congr 1
    omega
  rw [kmk_pick_nat _ e]
  show ((vs.drop (vs.toArray.size - 1)).take (vs.toArray.size - (vs.toArray.size - 1))) = _
  rw [List.size_toArray, List.take_of_length_le (by rw [List.length_drop]; omega)]

theorem fr_say {h₀ h : Heap} {L : Addr} {m : Str → Option Value} (F : Fr h₀ L h m) {x : Str} {v : Value} (e : m x = some v) : Fr h₀ L h (fun y => if y = x then some v else m y) := by rw [upd_same e]; exact F

section
variable {prog : Program} {w : World} {A : Around} {E : Value → Shared → Prop} {s : Shared} {h₀ : Heap} {L : Addr} {m : Str → Option Value} {news : List (Addr × Obj)}
theorem addS {x y : Str} {a b : List Nat} {t u : Tok} {Q : Value → Shared → Prop} (ht : 1 ≤ s.toks) (hx : x = S a) (hy : y = S b) (hl : a.length + b.length ≤ 16777216) (h : ∀ t' tk, 1 ≤ tk → Q (.str (S (a ++ b)) t') { s with toks := tk }) :
    wpAny (model prog w) A (binaryOp .Add (.str x t) (.str y u)) Q E s := by
  subst hx hy
  refine wpAny_with_toks (n := 1) ht ?_
  refine PyProof.Rows.add_str ?_ (by rw [S_len, S_len, sizeLine_eq]; exact hl)
  rw [S_add]; exact h
theorem mulS {x : Str} {a : List Nat} {n : Int} {t u : Tok} {Q : Value → Shared → Prop} (N : Nat) (ht : 1 ≤ s.toks) (hx : x = S a) (hn : n ≤ (N : Int)) (hlo : -(2 ^ 63 : Int) ≤ n) (hN : N ≤ 16777216) (hL : a.length * N ≤ 16777216)
    (h : ∀ t' tk, 1 ≤ tk → Q (.str (S (List.replicate n.toNat a).flatten) t') { s with toks := tk }) : wpAny (model prog w) A (binaryOp .Mult (.str x t) (.int n u)) Q E s := by
  subst hx
  refine wpAny_with_toks (n := 1) ht ?_
  refine SB.mul (mulOk_of a.length N (by rw [S_len]; exact Nat.le_refl _) hn hlo hN hL) ?_
  rw [mul_S]; exact h
theorem itemD {value slice : Expr} {d : Addr} {x : Str} {t : Tok} {f : Str → Option Value} {v : Value} {Q : Value → Shared → Prop} (hm : s.heap.MapOf (PySem.strKind prog w) d f) (hv : f x = some v) (h : Q v { s with toks := s.toks + 1 })
    (hs : subscripted slice false (.ref d) (.str x t) = operate [.ref d, .str x t] (getItem (.ref d) (.str x t)) := by with_unfolding_all rfl) :
    wpAny (model prog w) A (subscriptTail value slice (.ref d) (.str x t)) Q E s :=
  tail_any hm.typeIs slot_dict_getitem.lookup (wpAny_getItem_of (strKind_is prog w x t) hm hv h) hs
/-- a node's depth, its sign -/
theorem node0 {value slice : Expr} {b : Addr} {nd : Nat × Nat} {t1 t2 u : Tok} {Q : Value → Shared → Prop} (i : IsTup s.heap b #[.int (nd.1 : Int) t1, .str (S [nd.2]) t2]) (h : Q (.int (nd.1 : Int) t1) s)
    (hs : subscripted slice false (.ref b) (.int 0 u) = operate [.ref b, .int 0 u] (getItem (.ref b) (.int 0 u)) := by with_unfolding_all rfl) :
    wpAny (model prog w) A (subscriptTail value slice (.ref b) (.int 0 u)) Q E s :=
  item_tupleT (l := [.int (nd.1 : Int) t1, .str (S [nd.2]) t2]) (j := 0) i (by decide) (by decide) rfl rfl h hs
theorem node1 {value slice : Expr} {b : Addr} {nd : Nat × Nat} {t1 t2 u : Tok} {Q : Value → Shared → Prop} (i : IsTup s.heap b #[.int (nd.1 : Int) t1, .str (S [nd.2]) t2]) (h : Q (.str (S [nd.2]) t2) s)
    (hs : subscripted slice false (.ref b) (.int 1 u) = operate [.ref b, .int 1 u] (getItem (.ref b) (.int 1 u)) := by with_unfolding_all rfl) :
    wpAny (model prog w) A (subscriptTail value slice (.ref b) (.int 1 u)) Q E s :=
  item_tupleT (l := [.int (nd.1 : Int) t1, .str (S [nd.2]) t2]) (j := 1) i (by decide) (by decide) rfl rfl h hs
/-- an item of a list of nodes -/
theorem itemN {value slice : Expr} {a : Addr} {t : List (Nat × Nat)} {k : Nat} {u : Tok} {nd : Nat × Nat} {Q : Value → Shared → Prop} (T : TreeAt s.heap a t) (hk : t[k]? = some nd) (hb : t.length < 2 ^ 62)
    (h : ∀ b t1 t2, IsTup s.heap b #[.int (nd.1 : Int) t1, .str (S [nd.2]) t2] → Q (.ref b) s)
    (hs : subscripted slice false (.ref a) (.int (k : Int) u) = operate [.ref a, .int (k : Int) u] (getItem (.ref a) (.int (k : Int) u)) := by with_unfolding_all rfl) (hg : ∀ r, letTemporaryGo value (.ref a) r = pure () := by intro _; with_unfolding_all rfl) :
    wpAny (model prog w) A (subscriptTail value slice (.ref a) (.int (k : Int) u)) Q E s := by
  obtain ⟨vs, hl, hn⟩ := T
  obtain ⟨v, hv, b, t1, t2, rfl, hi⟩ := hn.get hk
  obtain ⟨hlt, _⟩ := List.getElem?_eq_some_iff.mp hk
  exact item_listL hl (by omega) (by omega) (by simpa using hv) (h b t1 t2 hi) hs hg
end
end Mine
end
-- MEsc
section
open PySem PySem.W PyProof.Rows PySem.Calls
set_option maxRecDepth 100000
set_option Elab.async false
set_option linter.unusedVariables false
set_option maxHeartbeats 4000000
namespace Mine
theorem fillE : PySem.Challenge.rw_wn0108_01 = PySem.Challenge.rw_wn0108_01 ∧ Mine.hd.heap_39 = Mine.hd.heap_39 := by
  k_fill
  exact ⟨rfl, rfl⟩

section
variable {prog : Program} {w : World} {A : Around} {s : Shared}


theorem replaceR {x y z : Str} {t u v : Tok} {c : Nat} {zl xl : List Nat} {E : Value → Shared → Prop} {Q : Value → Shared → Prop} (hx : x = S xl) (hy : y = S [c]) (hz : z = S zl) (hu : u ≠ 0) (hv : v ≠ 0) (huv : u ≠ v) (hne : zl ≠ [c]) (hzl : zl.length ≤ 6) (hxl : xl.length ≤ 1200000)
    (h : ∀ t' k, Q (.str (S (sub1 c zl xl)) t') { s with toks := k }) : wpAny (model prog w) A (call (.builtin "str.replace") [.str x t, .str y u, .str z v]) Q E s := by
  subst hx hy hz
  refine SC.replace hu hv huv (by rw [S_eqb]; exact decide_eq_false fun e => hne e.symm) ?_ ?_
  · rw [S_len, S_len]
    have : (xl.length + 1) * zl.length ≤ (xl.length + 1) * 6 := Nat.mul_le_mul_left _ hzl
    omega
  · intro t' k
    rw [replace_S]
    exact h t' k

theorem escIf {name : Str} {scope : Scope} {L a : Addr} {cd : Value} {h₀ : Heap} {m : Str → Option Value} {news : List (Addr × Obj)} {E : Value → Shared → Prop} {Q : Flow → Shared → Prop}
    {y z : String} {pl : Sem Bool} {p1 p2 p3 p4 p5 p6 p7 p8 p9 p10 p11 : Pos} {c : Nat} {zl xl : List Nat} {t : Tok}
    (hy : Str.ofString y = S [c]) (hz : Str.ofString z = S zl) (hne : zl ≠ [c]) (hzl : zl.length ≤ 6) (hxl : xl.length ≤ 1200000)
    (he : eval (.Call (.Attribute (.Name "text" p5) "replace" p6) [.Constant (.str y) 0 p7, .Constant (.str z) 0 p8] [] p9) (envOf name scope L a cd) = (do
      let ov ← eval (.Name "text" p5) (envOf name scope L a cd)
      standAt p6.atName
      let (f, first) ← holding [ov] (getMethod ov "replace" pl)
      callWith p9 f first (backTo p9 (starEach [.Constant (.str y) 0 p7, .Constant (.str z) 0 p8] (envOf name scope L a cd))) []))
    (hk : scope.kind = .function) (hl : (envOf name scope L a cd).kindOf "text" = some .local)
    (F : Fr h₀ L s.heap m) (N : News h₀ L s.heap news) (hm : m "text" = some (.str (S xl) t)) (ht : 1 ≤ s.toks)
    (h : ∀ h' t' tk', 1 ≤ tk' → Fr h₀ L h' (fun w => if w = "text" then some (.str (S (sub1 c zl xl)) t') else m w) → News h₀ L h' news → Q .next { s with heap := h', toks := tk' }) :
    wpAny (model prog w) A (exec (.If (.Compare (.Constant (.str y) 0 p1) [.In] [.Name "text" p2] p3) [.Assign [.Name "text" p4] (.Call (.Attribute (.Name "text" p5) "replace" p6) [.Constant (.str y) 0 p7, .Constant (.str z) 0 p8] [] p9) p10] [] p11) (envOf name scope L a cd)) Q E s := by
  refine wpAny_with_toks (n := 1) ht ?_
  refine wpAny_If (wpAny_isTrue_Compare1 (Constant_str (ld F hm ?_ hk hl)))
  refine in_str (wpAny_truthy_bool ?_)
  rw [show Builtin.Str.occurrences (S xl) (Str.ofString y) 0 (S xl).length 1 = Builtin.Str.occurrences (S xl) (S [c]) 0 (S xl).length 1 from by rw [hy], in_S, Bool.not_not]
  by_cases hc : c ∈ xl
  · rw [decide_eq_true hc, if_pos rfl]
    refine wpAny_execs_cons (wpAny_Assign_Name ?_)
    refine MethodCall_ (pl := pl) (ld F hm ?_ hk hl) he
    refine GM.replace ?_
    iterate 6 walk1
    refine replaceR rfl hy hz ?_ ?_ ?_ hne hzl hxl ?_
    · show s.toks + 1 ≠ 0; omega
    · show s.toks + 1 + 1 ≠ 0; omega
    · show s.toks + 1 ≠ s.toks + 1 + 1; omega
    intro t' k
    refine stN F N ?_ hk hl
    intro h' F' N'
    refine wpAny_execs_nil fun ht' => ?_
    exact h h' t' _ ht' F' N'
  · rw [decide_eq_false hc]
    simp only [Bool.false_eq_true, if_false]
    refine wpAny_execs_nil fun ht' => ?_
    have e := upd_same hm
    exact h s.heap t (s.toks + 1) (by omega) (by rw [sub1_free c zl xl hc, e]; exact F) N
end

theorem tryQuiet {prog : Program} {w : World} {A : Around} {s : Shared} {env : Env} {E : Value → Shared → Prop} {body : List Stmt} {h₀ : ExceptHandler} {hs : List ExceptHandler} {pos : Pos} {Q : Flow → Shared → Prop} (ht : 1 ≤ s.toks)
    (h : wpAny (model prog w) A (execs body env) (fun f s₁ => 1 ≤ s₁.toks → (match f with | .next => wpAny (model prog w) A (execs [] env) Q E s₁ | f => Q f s₁)) (fun _ _ => False) s) :
    wpAny (model prog w) A (exec (.Try body (h₀ :: hs) [] [] pos) env) Q E s :=
  wpAny_Try_except (wpAny_noRaise (wpAny_mono (wpAny_toks_of ht h) (fun f s₁ x => x.2 x.1) fun _ _ x => x.2))

/-- signs turned one behind the other -/
noncomputable def chain : List (Nat × List Nat) → List Nat → List Nat
  | [], l => l
  | p :: r, l => chain r (sub1 p.1 p.2 l)
theorem sub1_flat (c : Nat) (z : List Nat) (f : Nat → List Nat) (l : List Nat) : sub1 c z (l.flatMap f) = l.flatMap fun k => sub1 c z (f k) := by
  unfold sub1; rw [List.flatMap_assoc]
theorem chain_flat : ∀ (ps : List (Nat × List Nat)) (f : Nat → List Nat) (l : List Nat), chain ps (l.flatMap f) = l.flatMap fun k => chain ps (f k)
  | [], _, _ => rfl
  | p :: r, f, l => by show chain r (sub1 p.1 p.2 (l.flatMap f)) = _; rw [sub1_flat, chain_flat r]; rfl
theorem chain_each (ps : List (Nat × List Nat)) (l : List Nat) : chain ps l = l.flatMap fun k => chain ps [k] := by
  have := chain_flat ps (fun k => [k]) l
  simpa using this
theorem chain_one (c : Nat) (z : List Nat) (ps : List (Nat × List Nat)) (k : Nat) : chain ((c, z) :: ps) [k] = if k = c then chain ps z else chain ps [k] := by
  show chain ps (sub1 c z [k]) = _
  have : sub1 c z [k] = if k = c then z else [k] := by simp [sub1]
  rw [this]; split <;> rfl
theorem chain_nil (l : List Nat) : chain [] l = l := rfl
theorem flat_len {f : Nat → List Nat} {b : Nat} (h : ∀ k, (f k).length ≤ b) : ∀ l : List Nat, (l.flatMap f).length ≤ b * l.length
  | [] => by simp
  | k :: r => by
    have := flat_len h r
    have := h k
    rw [List.flatMap_cons, List.length_append, List.length_cons, Nat.mul_succ]; omega
theorem chain_len {ps : List (Nat × List Nat)} (h : ∀ k, (chain ps [k]).length ≤ 6) {l : List Nat} (hl : l.length ≤ 200000) : (chain ps l).length ≤ 1200000 := by
  rw [chain_each]
  have := flat_len h l
  omega

/-- what a sign is written as, by the hand -/
noncomputable def em (hand k : Nat) : List Nat := match hand with
  | 0 => if k = 38 then [38, 97, 109, 112, 59] else if k = 60 then [38, 108, 116, 59] else if k = 62 then [38, 103, 116, 59] else [k]
  | 1 => if k = 38 then [38, 97, 109, 112, 59] else if k = 60 then [38, 108, 116, 59] else if k = 62 then [38, 103, 116, 59] else if k = 13 then [38, 35, 120, 68, 59] else [k]
  | 2 => if k = 38 then [38, 97, 109, 112, 59] else if k = 60 then [38, 108, 116, 59] else if k = 62 then [38, 103, 116, 59] else if k = 34 then [38, 113, 117, 111, 116, 59] else if k = 13 then [38, 35, 49, 51, 59] else if k = 10 then [38, 35, 49, 48, 59] else if k = 9 then [38, 35, 48, 57, 59] else [k]
  | 3 => if k = 38 then [38, 97, 109, 112, 59] else if k = 60 then [38, 108, 116, 59] else if k = 34 then [38, 113, 117, 111, 116, 59] else if k = 9 then [38, 35, 120, 57, 59] else if k = 10 then [38, 35, 120, 65, 59] else if k = 13 then [38, 35, 120, 68, 59] else [k]
  | _ => if k = 38 then [38, 97, 109, 112, 59] else if k = 62 then [38, 103, 116, 59] else if k = 34 then [38, 113, 117, 111, 116, 59] else [k]
noncomputable def esc (hand : Nat) (l : List Nat) : List Nat := l.flatMap (em hand)
noncomputable def ps0 : List (Nat × List Nat) := [(38, [38, 97, 109, 112, 59]), (60, [38, 108, 116, 59]), (62, [38, 103, 116, 59])]
theorem ps0_one (k : Nat) : chain ps0 [k] = em 0 k := by
  simp only [ps0, em, chain_one, chain_nil, show chain [(60, [38, 108, 116, 59]), (62, [38, 103, 116, 59])] [38, 97, 109, 112, 59] = [38, 97, 109, 112, 59] from by rfl, show chain [(62, [38, 103, 116, 59])] [38, 108, 116, 59] = [38, 108, 116, 59] from by rfl, show chain [] [38, 103, 116, 59] = [38, 103, 116, 59] from by rfl]
theorem ps0_esc (l : List Nat) : chain ps0 l = esc 0 l := by
  rw [chain_each]; exact congrArg (fun f => l.flatMap f) (funext ps0_one)
theorem len0_1 {l : List Nat} (hl : l.length ≤ 200000) : (chain [(38, [38, 97, 109, 112, 59])] l).length ≤ 1200000 := chain_len (fun k => by
  simp only [chain_one, chain_nil, show chain [] [38, 97, 109, 112, 59] = [38, 97, 109, 112, 59] from by rfl]
  repeat' split
  all_goals (simp only [List.length_cons, List.length_nil]; omega)) hl
theorem len0_2 {l : List Nat} (hl : l.length ≤ 200000) : (chain [(38, [38, 97, 109, 112, 59]), (60, [38, 108, 116, 59])] l).length ≤ 1200000 := chain_len (fun k => by
  simp only [chain_one, chain_nil, show chain [(60, [38, 108, 116, 59])] [38, 97, 109, 112, 59] = [38, 97, 109, 112, 59] from by rfl, show chain [] [38, 108, 116, 59] = [38, 108, 116, 59] from by rfl]
  repeat' split
  all_goals (simp only [List.length_cons, List.length_nil]; omega)) hl
theorem written0 {prog : Program} {w : World} {A : Around} {s : Shared} (C : Cx w A s.heap) (R : Rm A 1) (ht : 1 ≤ s.toks) {x : List Nat} {t1 : Tok} (hx : x.length ≤ 200000) :
    Gives prog w A 133 [.str (S x) t1] s (fun h r => ∃ t, r = .str (S (esc 0 x)) t) := by
  refine enter (binds := [("text", .str (S x) t1)]) C (by k_is) (by k_is) (by have := R.d; omega) (BindsTo.of_eq rfl) (locs rfl) (by decide) rfl rfl rfl ?_
  intro g L h₁ base fr p loose mean mg mb Q hg F N B X T ret
  clear C
  refine execs_consT (by show 1 ≤ s.toks + 1; omega) ?_
  refine tryQuiet (by show 1 ≤ s.toks + 1; omega) ?_
  refine execs_consT (by show 1 ≤ s.toks + 1; omega) ?_
  refine escIf (c := 38) (zl := [38, 97, 109, 112, 59]) (by decide +kernel) (by decide +kernel) (by decide) (by decide) (by omega) (by rfl) rfl (by rfl) F N rfl (by show 1 ≤ s.toks + 1; omega) ?_
  clear F N
  intro h10 t10 tk10 ht10 F N
  refine fun _ => ?_
  dsimp only
  refine execs_consT (ht10) ?_
  refine escIf (c := 60) (zl := [38, 108, 116, 59]) (by decide +kernel) (by decide +kernel) (by decide) (by decide) (len0_1 hx) (by rfl) rfl (by rfl) F N rfl (ht10) ?_
  clear F N
  intro h11 t11 tk11 ht11 F N
  refine fun _ => ?_
  dsimp only
  refine execs_consT (ht11) ?_
  refine escIf (c := 62) (zl := [38, 103, 116, 59]) (by decide +kernel) (by decide +kernel) (by decide) (by decide) (len0_2 hx) (by rfl) rfl (by rfl) F N rfl (ht11) ?_
  clear F N
  intro h12 t12 tk12 ht12 F N
  refine fun _ => ?_
  dsimp only
  refine wpAny_execs_cons ?_
  refine wpAny_Return_some ?_
  refine ld F rfl ?_
  refine fun _ => ?_
  dsimp only
  refine fun _ => ?_
  refine ret _ _ _ _ F ⟨_, congrArg (fun l => Value.str (S l) _) ?_⟩
  exact ps0_esc x
noncomputable def ps1 : List (Nat × List Nat) := [(38, [38, 97, 109, 112, 59]), (60, [38, 108, 116, 59]), (62, [38, 103, 116, 59]), (13, [38, 35, 120, 68, 59])]
theorem ps1_one (k : Nat) : chain ps1 [k] = em 1 k := by
  simp only [ps1, em, chain_one, chain_nil, show chain [(60, [38, 108, 116, 59]), (62, [38, 103, 116, 59]), (13, [38, 35, 120, 68, 59])] [38, 97, 109, 112, 59] = [38, 97, 109, 112, 59] from by rfl, show chain [(62, [38, 103, 116, 59]), (13, [38, 35, 120, 68, 59])] [38, 108, 116, 59] = [38, 108, 116, 59] from by rfl, show chain [(13, [38, 35, 120, 68, 59])] [38, 103, 116, 59] = [38, 103, 116, 59] from by rfl, show chain [] [38, 35, 120, 68, 59] = [38, 35, 120, 68, 59] from by rfl]
theorem ps1_esc (l : List Nat) : chain ps1 l = esc 1 l := by
  rw [chain_each]; exact congrArg (fun f => l.flatMap f) (funext ps1_one)
theorem len1_1 {l : List Nat} (hl : l.length ≤ 200000) : (chain [(38, [38, 97, 109, 112, 59])] l).length ≤ 1200000 := chain_len (fun k => by
  simp only [chain_one, chain_nil, show chain [] [38, 97, 109, 112, 59] = [38, 97, 109, 112, 59] from by rfl]
  repeat' split
  all_goals (simp only [List.length_cons, List.length_nil]; omega)) hl
theorem len1_2 {l : List Nat} (hl : l.length ≤ 200000) : (chain [(38, [38, 97, 109, 112, 59]), (60, [38, 108, 116, 59])] l).length ≤ 1200000 := chain_len (fun k => by
  simp only [chain_one, chain_nil, show chain [(60, [38, 108, 116, 59])] [38, 97, 109, 112, 59] = [38, 97, 109, 112, 59] from by rfl, show chain [] [38, 108, 116, 59] = [38, 108, 116, 59] from by rfl]
  repeat' split
  all_goals (simp only [List.length_cons, List.length_nil]; omega)) hl
theorem len1_3 {l : List Nat} (hl : l.length ≤ 200000) : (chain [(38, [38, 97, 109, 112, 59]), (60, [38, 108, 116, 59]), (62, [38, 103, 116, 59])] l).length ≤ 1200000 := chain_len (fun k => by
  simp only [chain_one, chain_nil, show chain [(60, [38, 108, 116, 59]), (62, [38, 103, 116, 59])] [38, 97, 109, 112, 59] = [38, 97, 109, 112, 59] from by rfl, show chain [(62, [38, 103, 116, 59])] [38, 108, 116, 59] = [38, 108, 116, 59] from by rfl, show chain [] [38, 103, 116, 59] = [38, 103, 116, 59] from by rfl]
  repeat' split
  all_goals (simp only [List.length_cons, List.length_nil]; omega)) hl
theorem written1 {prog : Program} {w : World} {A : Around} {s : Shared} (C : Cx w A s.heap) (R : Rm A 1) (ht : 1 ≤ s.toks) {x : List Nat} {t1 : Tok} (hx : x.length ≤ 200000) :
    Gives prog w A 154 [.str (S x) t1] s (fun h r => ∃ t, r = .str (S (esc 1 x)) t) := by
  refine enter (binds := [("text", .str (S x) t1)]) C (by k_is) (by k_is) (by have := R.d; omega) (BindsTo.of_eq rfl) (locs rfl) (by decide) rfl rfl rfl ?_
  intro g L h₁ base fr p loose mean mg mb Q hg F N B X T ret
  clear C
  refine execs_consT (by show 1 ≤ s.toks + 1; omega) ?_
  refine tryQuiet (by show 1 ≤ s.toks + 1; omega) ?_
  refine execs_consT (by show 1 ≤ s.toks + 1; omega) ?_
  refine escIf (c := 38) (zl := [38, 97, 109, 112, 59]) (by decide +kernel) (by decide +kernel) (by decide) (by decide) (by omega) (by rfl) rfl (by rfl) F N rfl (by show 1 ≤ s.toks + 1; omega) ?_
  clear F N
  intro h10 t10 tk10 ht10 F N
  refine fun _ => ?_
  dsimp only
  refine execs_consT (ht10) ?_
  refine escIf (c := 60) (zl := [38, 108, 116, 59]) (by decide +kernel) (by decide +kernel) (by decide) (by decide) (len1_1 hx) (by rfl) rfl (by rfl) F N rfl (ht10) ?_
  clear F N
  intro h11 t11 tk11 ht11 F N
  refine fun _ => ?_
  dsimp only
  refine execs_consT (ht11) ?_
  refine escIf (c := 62) (zl := [38, 103, 116, 59]) (by decide +kernel) (by decide +kernel) (by decide) (by decide) (len1_2 hx) (by rfl) rfl (by rfl) F N rfl (ht11) ?_
  clear F N
  intro h12 t12 tk12 ht12 F N
  refine fun _ => ?_
  dsimp only
  refine execs_consT (ht12) ?_
  refine escIf (c := 13) (zl := [38, 35, 120, 68, 59]) (by decide +kernel) (by decide +kernel) (by decide) (by decide) (len1_3 hx) (by rfl) rfl (by rfl) F N rfl (ht12) ?_
  clear F N
  intro h13 t13 tk13 ht13 F N
  refine fun _ => ?_
  dsimp only
  refine wpAny_execs_cons ?_
  refine wpAny_Return_some ?_
  refine ld F rfl ?_
  refine fun _ => ?_
  dsimp only
  refine fun _ => ?_
  refine ret _ _ _ _ F ⟨_, congrArg (fun l => Value.str (S l) _) ?_⟩
  exact ps1_esc x
noncomputable def ps2 : List (Nat × List Nat) := [(38, [38, 97, 109, 112, 59]), (60, [38, 108, 116, 59]), (62, [38, 103, 116, 59]), (34, [38, 113, 117, 111, 116, 59]), (13, [38, 35, 49, 51, 59]), (10, [38, 35, 49, 48, 59]), (9, [38, 35, 48, 57, 59])]
theorem ps2_one (k : Nat) : chain ps2 [k] = em 2 k := by
  simp only [ps2, em, chain_one, chain_nil, show chain [(60, [38, 108, 116, 59]), (62, [38, 103, 116, 59]), (34, [38, 113, 117, 111, 116, 59]), (13, [38, 35, 49, 51, 59]), (10, [38, 35, 49, 48, 59]), (9, [38, 35, 48, 57, 59])] [38, 97, 109, 112, 59] = [38, 97, 109, 112, 59] from by rfl, show chain [(62, [38, 103, 116, 59]), (34, [38, 113, 117, 111, 116, 59]), (13, [38, 35, 49, 51, 59]), (10, [38, 35, 49, 48, 59]), (9, [38, 35, 48, 57, 59])] [38, 108, 116, 59] = [38, 108, 116, 59] from by rfl, show chain [(34, [38, 113, 117, 111, 116, 59]), (13, [38, 35, 49, 51, 59]), (10, [38, 35, 49, 48, 59]), (9, [38, 35, 48, 57, 59])] [38, 103, 116, 59] = [38, 103, 116, 59] from by rfl, show chain [(13, [38, 35, 49, 51, 59]), (10, [38, 35, 49, 48, 59]), (9, [38, 35, 48, 57, 59])] [38, 113, 117, 111, 116, 59] = [38, 113, 117, 111, 116, 59] from by rfl, show chain [(10, [38, 35, 49, 48, 59]), (9, [38, 35, 48, 57, 59])] [38, 35, 49, 51, 59] = [38, 35, 49, 51, 59] from by rfl, show chain [(9, [38, 35, 48, 57, 59])] [38, 35, 49, 48, 59] = [38, 35, 49, 48, 59] from by rfl, show chain [] [38, 35, 48, 57, 59] = [38, 35, 48, 57, 59] from by rfl]
theorem ps2_esc (l : List Nat) : chain ps2 l = esc 2 l := by
  rw [chain_each]; exact congrArg (fun f => l.flatMap f) (funext ps2_one)
theorem len2_1 {l : List Nat} (hl : l.length ≤ 200000) : (chain [(38, [38, 97, 109, 112, 59])] l).length ≤ 1200000 := chain_len (fun k => by
  simp only [chain_one, chain_nil, show chain [] [38, 97, 109, 112, 59] = [38, 97, 109, 112, 59] from by rfl]
  repeat' split
  all_goals (simp only [List.length_cons, List.length_nil]; omega)) hl
theorem len2_2 {l : List Nat} (hl : l.length ≤ 200000) : (chain [(38, [38, 97, 109, 112, 59]), (60, [38, 108, 116, 59])] l).length ≤ 1200000 := chain_len (fun k => by
  simp only [chain_one, chain_nil, show chain [(60, [38, 108, 116, 59])] [38, 97, 109, 112, 59] = [38, 97, 109, 112, 59] from by rfl, show chain [] [38, 108, 116, 59] = [38, 108, 116, 59] from by rfl]
  repeat' split
  all_goals (simp only [List.length_cons, List.length_nil]; omega)) hl
theorem len2_3 {l : List Nat} (hl : l.length ≤ 200000) : (chain [(38, [38, 97, 109, 112, 59]), (60, [38, 108, 116, 59]), (62, [38, 103, 116, 59])] l).length ≤ 1200000 := chain_len (fun k => by
  simp only [chain_one, chain_nil, show chain [(60, [38, 108, 116, 59]), (62, [38, 103, 116, 59])] [38, 97, 109, 112, 59] = [38, 97, 109, 112, 59] from by rfl, show chain [(62, [38, 103, 116, 59])] [38, 108, 116, 59] = [38, 108, 116, 59] from by rfl, show chain [] [38, 103, 116, 59] = [38, 103, 116, 59] from by rfl]
  repeat' split
  all_goals (simp only [List.length_cons, List.length_nil]; omega)) hl
theorem len2_4 {l : List Nat} (hl : l.length ≤ 200000) : (chain [(38, [38, 97, 109, 112, 59]), (60, [38, 108, 116, 59]), (62, [38, 103, 116, 59]), (34, [38, 113, 117, 111, 116, 59])] l).length ≤ 1200000 := chain_len (fun k => by
  simp only [chain_one, chain_nil, show chain [(60, [38, 108, 116, 59]), (62, [38, 103, 116, 59]), (34, [38, 113, 117, 111, 116, 59])] [38, 97, 109, 112, 59] = [38, 97, 109, 112, 59] from by rfl, show chain [(62, [38, 103, 116, 59]), (34, [38, 113, 117, 111, 116, 59])] [38, 108, 116, 59] = [38, 108, 116, 59] from by rfl, show chain [(34, [38, 113, 117, 111, 116, 59])] [38, 103, 116, 59] = [38, 103, 116, 59] from by rfl, show chain [] [38, 113, 117, 111, 116, 59] = [38, 113, 117, 111, 116, 59] from by rfl]
  repeat' split
  all_goals (simp only [List.length_cons, List.length_nil]; omega)) hl
theorem len2_5 {l : List Nat} (hl : l.length ≤ 200000) : (chain [(38, [38, 97, 109, 112, 59]), (60, [38, 108, 116, 59]), (62, [38, 103, 116, 59]), (34, [38, 113, 117, 111, 116, 59]), (13, [38, 35, 49, 51, 59])] l).length ≤ 1200000 := chain_len (fun k => by
  simp only [chain_one, chain_nil, show chain [(60, [38, 108, 116, 59]), (62, [38, 103, 116, 59]), (34, [38, 113, 117, 111, 116, 59]), (13, [38, 35, 49, 51, 59])] [38, 97, 109, 112, 59] = [38, 97, 109, 112, 59] from by rfl, show chain [(62, [38, 103, 116, 59]), (34, [38, 113, 117, 111, 116, 59]), (13, [38, 35, 49, 51, 59])] [38, 108, 116, 59] = [38, 108, 116, 59] from by rfl, show chain [(34, [38, 113, 117, 111, 116, 59]), (13, [38, 35, 49, 51, 59])] [38, 103, 116, 59] = [38, 103, 116, 59] from by rfl, show chain [(13, [38, 35, 49, 51, 59])] [38, 113, 117, 111, 116, 59] = [38, 113, 117, 111, 116, 59] from by rfl, show chain [] [38, 35, 49, 51, 59] = [38, 35, 49, 51, 59] from by rfl]
  repeat' split
  all_goals (simp only [List.length_cons, List.length_nil]; omega)) hl
theorem len2_6 {l : List Nat} (hl : l.length ≤ 200000) : (chain [(38, [38, 97, 109, 112, 59]), (60, [38, 108, 116, 59]), (62, [38, 103, 116, 59]), (34, [38, 113, 117, 111, 116, 59]), (13, [38, 35, 49, 51, 59]), (10, [38, 35, 49, 48, 59])] l).length ≤ 1200000 := chain_len (fun k => by
  simp only [chain_one, chain_nil, show chain [(60, [38, 108, 116, 59]), (62, [38, 103, 116, 59]), (34, [38, 113, 117, 111, 116, 59]), (13, [38, 35, 49, 51, 59]), (10, [38, 35, 49, 48, 59])] [38, 97, 109, 112, 59] = [38, 97, 109, 112, 59] from by rfl, show chain [(62, [38, 103, 116, 59]), (34, [38, 113, 117, 111, 116, 59]), (13, [38, 35, 49, 51, 59]), (10, [38, 35, 49, 48, 59])] [38, 108, 116, 59] = [38, 108, 116, 59] from by rfl, show chain [(34, [38, 113, 117, 111, 116, 59]), (13, [38, 35, 49, 51, 59]), (10, [38, 35, 49, 48, 59])] [38, 103, 116, 59] = [38, 103, 116, 59] from by rfl, show chain [(13, [38, 35, 49, 51, 59]), (10, [38, 35, 49, 48, 59])] [38, 113, 117, 111, 116, 59] = [38, 113, 117, 111, 116, 59] from by rfl, show chain [(10, [38, 35, 49, 48, 59])] [38, 35, 49, 51, 59] = [38, 35, 49, 51, 59] from by rfl, show chain [] [38, 35, 49, 48, 59] = [38, 35, 49, 48, 59] from by rfl]
  repeat' split
  all_goals (simp only [List.length_cons, List.length_nil]; omega)) hl
theorem written2 {prog : Program} {w : World} {A : Around} {s : Shared} (C : Cx w A s.heap) (R : Rm A 1) (ht : 1 ≤ s.toks) {x : List Nat} {t1 : Tok} (hx : x.length ≤ 200000) :
    Gives prog w A 140 [.str (S x) t1] s (fun h r => ∃ t, r = .str (S (esc 2 x)) t) := by
  refine enter (binds := [("text", .str (S x) t1)]) C (by k_is) (by k_is) (by have := R.d; omega) (BindsTo.of_eq rfl) (locs rfl) (by decide) rfl rfl rfl ?_
  intro g L h₁ base fr p loose mean mg mb Q hg F N B X T ret
  clear C
  refine execs_consT (by show 1 ≤ s.toks + 1; omega) ?_
  refine tryQuiet (by show 1 ≤ s.toks + 1; omega) ?_
  refine execs_consT (by show 1 ≤ s.toks + 1; omega) ?_
  refine escIf (c := 38) (zl := [38, 97, 109, 112, 59]) (by decide +kernel) (by decide +kernel) (by decide) (by decide) (by omega) (by rfl) rfl (by rfl) F N rfl (by show 1 ≤ s.toks + 1; omega) ?_
  clear F N
  intro h10 t10 tk10 ht10 F N
  refine fun _ => ?_
  dsimp only
  refine execs_consT (ht10) ?_
  refine escIf (c := 60) (zl := [38, 108, 116, 59]) (by decide +kernel) (by decide +kernel) (by decide) (by decide) (len2_1 hx) (by rfl) rfl (by rfl) F N rfl (ht10) ?_
  clear F N
  intro h11 t11 tk11 ht11 F N
  refine fun _ => ?_
  dsimp only
  refine execs_consT (ht11) ?_
  refine escIf (c := 62) (zl := [38, 103, 116, 59]) (by decide +kernel) (by decide +kernel) (by decide) (by decide) (len2_2 hx) (by rfl) rfl (by rfl) F N rfl (ht11) ?_
  clear F N
  intro h12 t12 tk12 ht12 F N
  refine fun _ => ?_
  dsimp only
  refine execs_consT (ht12) ?_
  refine escIf (c := 34) (zl := [38, 113, 117, 111, 116, 59]) (by decide +kernel) (by decide +kernel) (by decide) (by decide) (len2_3 hx) (by rfl) rfl (by rfl) F N rfl (ht12) ?_
  clear F N
  intro h13 t13 tk13 ht13 F N
  refine fun _ => ?_
  dsimp only
  refine execs_consT (ht13) ?_
  refine escIf (c := 13) (zl := [38, 35, 49, 51, 59]) (by decide +kernel) (by decide +kernel) (by decide) (by decide) (len2_4 hx) (by rfl) rfl (by rfl) F N rfl (ht13) ?_
  clear F N
  intro h14 t14 tk14 ht14 F N
  refine fun _ => ?_
  dsimp only
  refine execs_consT (ht14) ?_
  refine escIf (c := 10) (zl := [38, 35, 49, 48, 59]) (by decide +kernel) (by decide +kernel) (by decide) (by decide) (len2_5 hx) (by rfl) rfl (by rfl) F N rfl (ht14) ?_
  clear F N
  intro h15 t15 tk15 ht15 F N
  refine fun _ => ?_
  dsimp only
  refine execs_consT (ht15) ?_
  refine escIf (c := 9) (zl := [38, 35, 48, 57, 59]) (by decide +kernel) (by decide +kernel) (by decide) (by decide) (len2_6 hx) (by rfl) rfl (by rfl) F N rfl (ht15) ?_
  clear F N
  intro h16 t16 tk16 ht16 F N
  refine fun _ => ?_
  dsimp only
  refine wpAny_execs_cons ?_
  refine wpAny_Return_some ?_
  refine ld F rfl ?_
  refine fun _ => ?_
  dsimp only
  refine fun _ => ?_
  refine ret _ _ _ _ F ⟨_, congrArg (fun l => Value.str (S l) _) ?_⟩
  exact ps2_esc x
noncomputable def ps3 : List (Nat × List Nat) := [(38, [38, 97, 109, 112, 59]), (60, [38, 108, 116, 59]), (34, [38, 113, 117, 111, 116, 59]), (9, [38, 35, 120, 57, 59]), (10, [38, 35, 120, 65, 59]), (13, [38, 35, 120, 68, 59])]
theorem ps3_one (k : Nat) : chain ps3 [k] = em 3 k := by
  simp only [ps3, em, chain_one, chain_nil, show chain [(60, [38, 108, 116, 59]), (34, [38, 113, 117, 111, 116, 59]), (9, [38, 35, 120, 57, 59]), (10, [38, 35, 120, 65, 59]), (13, [38, 35, 120, 68, 59])] [38, 97, 109, 112, 59] = [38, 97, 109, 112, 59] from by rfl, show chain [(34, [38, 113, 117, 111, 116, 59]), (9, [38, 35, 120, 57, 59]), (10, [38, 35, 120, 65, 59]), (13, [38, 35, 120, 68, 59])] [38, 108, 116, 59] = [38, 108, 116, 59] from by rfl, show chain [(9, [38, 35, 120, 57, 59]), (10, [38, 35, 120, 65, 59]), (13, [38, 35, 120, 68, 59])] [38, 113, 117, 111, 116, 59] = [38, 113, 117, 111, 116, 59] from by rfl, show chain [(10, [38, 35, 120, 65, 59]), (13, [38, 35, 120, 68, 59])] [38, 35, 120, 57, 59] = [38, 35, 120, 57, 59] from by rfl, show chain [(13, [38, 35, 120, 68, 59])] [38, 35, 120, 65, 59] = [38, 35, 120, 65, 59] from by rfl, show chain [] [38, 35, 120, 68, 59] = [38, 35, 120, 68, 59] from by rfl]
theorem ps3_esc (l : List Nat) : chain ps3 l = esc 3 l := by
  rw [chain_each]; exact congrArg (fun f => l.flatMap f) (funext ps3_one)
theorem len3_1 {l : List Nat} (hl : l.length ≤ 200000) : (chain [(38, [38, 97, 109, 112, 59])] l).length ≤ 1200000 := chain_len (fun k => by
  simp only [chain_one, chain_nil, show chain [] [38, 97, 109, 112, 59] = [38, 97, 109, 112, 59] from by rfl]
  repeat' split
  all_goals (simp only [List.length_cons, List.length_nil]; omega)) hl
theorem len3_2 {l : List Nat} (hl : l.length ≤ 200000) : (chain [(38, [38, 97, 109, 112, 59]), (60, [38, 108, 116, 59])] l).length ≤ 1200000 := chain_len (fun k => by
  simp only [chain_one, chain_nil, show chain [(60, [38, 108, 116, 59])] [38, 97, 109, 112, 59] = [38, 97, 109, 112, 59] from by rfl, show chain [] [38, 108, 116, 59] = [38, 108, 116, 59] from by rfl]
  repeat' split
  all_goals (simp only [List.length_cons, List.length_nil]; omega)) hl
theorem len3_3 {l : List Nat} (hl : l.length ≤ 200000) : (chain [(38, [38, 97, 109, 112, 59]), (60, [38, 108, 116, 59]), (34, [38, 113, 117, 111, 116, 59])] l).length ≤ 1200000 := chain_len (fun k => by
  simp only [chain_one, chain_nil, show chain [(60, [38, 108, 116, 59]), (34, [38, 113, 117, 111, 116, 59])] [38, 97, 109, 112, 59] = [38, 97, 109, 112, 59] from by rfl, show chain [(34, [38, 113, 117, 111, 116, 59])] [38, 108, 116, 59] = [38, 108, 116, 59] from by rfl, show chain [] [38, 113, 117, 111, 116, 59] = [38, 113, 117, 111, 116, 59] from by rfl]
  repeat' split
  all_goals (simp only [List.length_cons, List.length_nil]; omega)) hl
theorem len3_4 {l : List Nat} (hl : l.length ≤ 200000) : (chain [(38, [38, 97, 109, 112, 59]), (60, [38, 108, 116, 59]), (34, [38, 113, 117, 111, 116, 59]), (9, [38, 35, 120, 57, 59])] l).length ≤ 1200000 := chain_len (fun k => by
  simp only [chain_one, chain_nil, show chain [(60, [38, 108, 116, 59]), (34, [38, 113, 117, 111, 116, 59]), (9, [38, 35, 120, 57, 59])] [38, 97, 109, 112, 59] = [38, 97, 109, 112, 59] from by rfl, show chain [(34, [38, 113, 117, 111, 116, 59]), (9, [38, 35, 120, 57, 59])] [38, 108, 116, 59] = [38, 108, 116, 59] from by rfl, show chain [(9, [38, 35, 120, 57, 59])] [38, 113, 117, 111, 116, 59] = [38, 113, 117, 111, 116, 59] from by rfl, show chain [] [38, 35, 120, 57, 59] = [38, 35, 120, 57, 59] from by rfl]
  repeat' split
  all_goals (simp only [List.length_cons, List.length_nil]; omega)) hl
theorem len3_5 {l : List Nat} (hl : l.length ≤ 200000) : (chain [(38, [38, 97, 109, 112, 59]), (60, [38, 108, 116, 59]), (34, [38, 113, 117, 111, 116, 59]), (9, [38, 35, 120, 57, 59]), (10, [38, 35, 120, 65, 59])] l).length ≤ 1200000 := chain_len (fun k => by
  simp only [chain_one, chain_nil, show chain [(60, [38, 108, 116, 59]), (34, [38, 113, 117, 111, 116, 59]), (9, [38, 35, 120, 57, 59]), (10, [38, 35, 120, 65, 59])] [38, 97, 109, 112, 59] = [38, 97, 109, 112, 59] from by rfl, show chain [(34, [38, 113, 117, 111, 116, 59]), (9, [38, 35, 120, 57, 59]), (10, [38, 35, 120, 65, 59])] [38, 108, 116, 59] = [38, 108, 116, 59] from by rfl, show chain [(9, [38, 35, 120, 57, 59]), (10, [38, 35, 120, 65, 59])] [38, 113, 117, 111, 116, 59] = [38, 113, 117, 111, 116, 59] from by rfl, show chain [(10, [38, 35, 120, 65, 59])] [38, 35, 120, 57, 59] = [38, 35, 120, 57, 59] from by rfl, show chain [] [38, 35, 120, 65, 59] = [38, 35, 120, 65, 59] from by rfl]
  repeat' split
  all_goals (simp only [List.length_cons, List.length_nil]; omega)) hl
theorem written3 {prog : Program} {w : World} {A : Around} {s : Shared} (C : Cx w A s.heap) (R : Rm A 1) (ht : 1 ≤ s.toks) {x : List Nat} {t1 : Tok} (hx : x.length ≤ 200000) :
    Gives prog w A 161 [.str (S x) t1] s (fun h r => ∃ t, r = .str (S (esc 3 x)) t) := by
  refine enter (binds := [("text", .str (S x) t1)]) C (by k_is) (by k_is) (by have := R.d; omega) (BindsTo.of_eq rfl) (locs rfl) (by decide) rfl rfl rfl ?_
  intro g L h₁ base fr p loose mean mg mb Q hg F N B X T ret
  clear C
  refine execs_consT (by show 1 ≤ s.toks + 1; omega) ?_
  refine tryQuiet (by show 1 ≤ s.toks + 1; omega) ?_
  refine execs_consT (by show 1 ≤ s.toks + 1; omega) ?_
  refine escIf (c := 38) (zl := [38, 97, 109, 112, 59]) (by decide +kernel) (by decide +kernel) (by decide) (by decide) (by omega) (by rfl) rfl (by rfl) F N rfl (by show 1 ≤ s.toks + 1; omega) ?_
  clear F N
  intro h10 t10 tk10 ht10 F N
  refine fun _ => ?_
  dsimp only
  refine execs_consT (ht10) ?_
  refine escIf (c := 60) (zl := [38, 108, 116, 59]) (by decide +kernel) (by decide +kernel) (by decide) (by decide) (len3_1 hx) (by rfl) rfl (by rfl) F N rfl (ht10) ?_
  clear F N
  intro h11 t11 tk11 ht11 F N
  refine fun _ => ?_
  dsimp only
  refine execs_consT (ht11) ?_
  refine escIf (c := 34) (zl := [38, 113, 117, 111, 116, 59]) (by decide +kernel) (by decide +kernel) (by decide) (by decide) (len3_2 hx) (by rfl) rfl (by rfl) F N rfl (ht11) ?_
  clear F N
  intro h12 t12 tk12 ht12 F N
  refine fun _ => ?_
  dsimp only
  refine execs_consT (ht12) ?_
  refine escIf (c := 9) (zl := [38, 35, 120, 57, 59]) (by decide +kernel) (by decide +kernel) (by decide) (by decide) (len3_3 hx) (by rfl) rfl (by rfl) F N rfl (ht12) ?_
  clear F N
  intro h13 t13 tk13 ht13 F N
  refine fun _ => ?_
  dsimp only
  refine execs_consT (ht13) ?_
  refine escIf (c := 10) (zl := [38, 35, 120, 65, 59]) (by decide +kernel) (by decide +kernel) (by decide) (by decide) (len3_4 hx) (by rfl) rfl (by rfl) F N rfl (ht13) ?_
  clear F N
  intro h14 t14 tk14 ht14 F N
  refine fun _ => ?_
  dsimp only
  refine execs_consT (ht14) ?_
  refine escIf (c := 13) (zl := [38, 35, 120, 68, 59]) (by decide +kernel) (by decide +kernel) (by decide) (by decide) (len3_5 hx) (by rfl) rfl (by rfl) F N rfl (ht14) ?_
  clear F N
  intro h15 t15 tk15 ht15 F N
  refine fun _ => ?_
  dsimp only
  refine wpAny_execs_cons ?_
  refine wpAny_Return_some ?_
  refine ld F rfl ?_
  refine fun _ => ?_
  dsimp only
  refine fun _ => ?_
  refine ret _ _ _ _ F ⟨_, congrArg (fun l => Value.str (S l) _) ?_⟩
  exact ps3_esc x
noncomputable def ps4 : List (Nat × List Nat) := [(38, [38, 97, 109, 112, 59]), (62, [38, 103, 116, 59]), (34, [38, 113, 117, 111, 116, 59])]
theorem ps4_one (k : Nat) : chain ps4 [k] = em 4 k := by
  simp only [ps4, em, chain_one, chain_nil, show chain [(62, [38, 103, 116, 59]), (34, [38, 113, 117, 111, 116, 59])] [38, 97, 109, 112, 59] = [38, 97, 109, 112, 59] from by rfl, show chain [(34, [38, 113, 117, 111, 116, 59])] [38, 103, 116, 59] = [38, 103, 116, 59] from by rfl, show chain [] [38, 113, 117, 111, 116, 59] = [38, 113, 117, 111, 116, 59] from by rfl]
theorem ps4_esc (l : List Nat) : chain ps4 l = esc 4 l := by
  rw [chain_each]; exact congrArg (fun f => l.flatMap f) (funext ps4_one)
theorem len4_1 {l : List Nat} (hl : l.length ≤ 200000) : (chain [(38, [38, 97, 109, 112, 59])] l).length ≤ 1200000 := chain_len (fun k => by
  simp only [chain_one, chain_nil, show chain [] [38, 97, 109, 112, 59] = [38, 97, 109, 112, 59] from by rfl]
  repeat' split
  all_goals (simp only [List.length_cons, List.length_nil]; omega)) hl
theorem len4_2 {l : List Nat} (hl : l.length ≤ 200000) : (chain [(38, [38, 97, 109, 112, 59]), (62, [38, 103, 116, 59])] l).length ≤ 1200000 := chain_len (fun k => by
  simp only [chain_one, chain_nil, show chain [(62, [38, 103, 116, 59])] [38, 97, 109, 112, 59] = [38, 97, 109, 112, 59] from by rfl, show chain [] [38, 103, 116, 59] = [38, 103, 116, 59] from by rfl]
  repeat' split
  all_goals (simp only [List.length_cons, List.length_nil]; omega)) hl
theorem written4 {prog : Program} {w : World} {A : Around} {s : Shared} (C : Cx w A s.heap) (R : Rm A 1) (ht : 1 ≤ s.toks) {x : List Nat} {t1 : Tok} (hx : x.length ≤ 200000) :
    Gives prog w A 147 [.str (S x) t1] s (fun h r => ∃ t, r = .str (S (esc 4 x)) t) := by
  refine enter (binds := [("text", .str (S x) t1)]) C (by k_is) (by k_is) (by have := R.d; omega) (BindsTo.of_eq rfl) (locs rfl) (by decide) rfl rfl rfl ?_
  intro g L h₁ base fr p loose mean mg mb Q hg F N B X T ret
  clear C
  refine execs_consT (by show 1 ≤ s.toks + 1; omega) ?_
  refine tryQuiet (by show 1 ≤ s.toks + 1; omega) ?_
  refine execs_consT (by show 1 ≤ s.toks + 1; omega) ?_
  refine escIf (c := 38) (zl := [38, 97, 109, 112, 59]) (by decide +kernel) (by decide +kernel) (by decide) (by decide) (by omega) (by rfl) rfl (by rfl) F N rfl (by show 1 ≤ s.toks + 1; omega) ?_
  clear F N
  intro h10 t10 tk10 ht10 F N
  refine fun _ => ?_
  dsimp only
  refine execs_consT (ht10) ?_
  refine escIf (c := 62) (zl := [38, 103, 116, 59]) (by decide +kernel) (by decide +kernel) (by decide) (by decide) (len4_1 hx) (by rfl) rfl (by rfl) F N rfl (ht10) ?_
  clear F N
  intro h11 t11 tk11 ht11 F N
  refine fun _ => ?_
  dsimp only
  refine execs_consT (ht11) ?_
  refine escIf (c := 34) (zl := [38, 113, 117, 111, 116, 59]) (by decide +kernel) (by decide +kernel) (by decide) (by decide) (len4_2 hx) (by rfl) rfl (by rfl) F N rfl (ht11) ?_
  clear F N
  intro h12 t12 tk12 ht12 F N
  refine fun _ => ?_
  dsimp only
  refine wpAny_execs_cons ?_
  refine wpAny_Return_some ?_
  refine ld F rfl ?_
  refine fun _ => ?_
  dsimp only
  refine fun _ => ?_
  refine ret _ _ _ _ F ⟨_, congrArg (fun l => Value.str (S l) _) ?_⟩
  exact ps4_esc x
theorem em_len (hand k : Nat) : (em hand k).length ≤ 6 := by
  unfold em
  split <;> (repeat' split) <;> simp
theorem esc_len (hand : Nat) (l : List Nat) : (esc hand l).length ≤ 6 * l.length := flat_len (em_len hand) l
end Mine
end
section
open PySem PySem.W PyProof.Rows PySem.Calls
open Mine
local macro_rules | `(tactic| walk_at "my tok") => `(tactic| first | assumption | omega | (dsimp only [List.length_cons, List.length_nil]; omega))
local macro_rules | `(tactic| walk_at "exec If") => `(tactic| refine wpAny_If ?_)
local macro_rules | `(tactic| walk_at "my one") => `(tactic| (first | walk1 | (dsimp only; walk1)))
local macro_rules | `(tactic| walk_at "my call") => `(tactic| ((fail_if_success (with_reducible show wpAny _ _ (PySem.call (Value.ref _) _ _) _ _ _))))
-- MWritten
section
open PySem PySem.W PyProof.Rows PySem.Calls
set_option maxRecDepth 100000
set_option Elab.async false
set_option linter.unusedVariables false
set_option maxHeartbeats 4000000
namespace Mine
local macro_rules | `(tactic| walk_at "my go") => `(tactic| repeat' (walk_at "my call"; walk_at "my one"))
local macro_rules | `(tactic| walk_at "execs cons") => `(tactic| (refine execs_consK ?ht ?_; (case ht => walk_at "my tok"); intro tk9 ht9))
theorem fillW : PySem.Challenge.rw_wn0108_01 = PySem.Challenge.rw_wn0108_01 ∧ Mine.hd.heap_39 = Mine.hd.heap_39 := by
  k_fill
  exact ⟨rfl, rfl⟩

theorem written {prog : Program} {w : World} {A : Around} {s : Shared} (C : Cx w A s.heap) (R : Rm A 2) (ht : 1 ≤ s.toks) {x : List Nat} {t1 t2 : Tok} (hx : x.length ≤ 200000) {hand : Nat} (hh : hand < 5) :
    Gives prog w A 180 [.str (S x) t1, .int (hand : Int) t2] s (fun h r => ∃ t, r = .str (S (esc hand x)) t) := by
  refine enter (binds := [("text", .str (S x) t1), ("hand", .int (hand : Int) t2)]) C (by k_is) (by k_is) (by have := R.d; omega) (BindsTo.of_eq rfl) (locs rfl) (by decide) rfl rfl rfl ?_
  intro g L h₁ base fr p loose mean mg mb Q hg F N B X T ret
  have hh0 := C.hh
  clear C
  walk_at "my go"
  · obtain rfl : hand = 0 := by omega
    refine (written0 (Cx.inner hh0 B F X T rfl rfl) R.inner (by assumption) hx).useT (by assumption) ?_
    intro h' tk' r ht' hk he
    walk_at "my go"
    exact ret _ _ _ _ (F.after hk) he
  · obtain rfl : hand = 1 := by omega
    refine (written1 (Cx.inner hh0 B F X T rfl rfl) R.inner (by assumption) hx).useT (by assumption) ?_
    intro h' tk' r ht' hk he
    walk_at "my go"
    exact ret _ _ _ _ (F.after hk) he
  · obtain rfl : hand = 2 := by omega
    refine (written2 (Cx.inner hh0 B F X T rfl rfl) R.inner (by assumption) hx).useT (by assumption) ?_
    intro h' tk' r ht' hk he
    walk_at "my go"
    exact ret _ _ _ _ (F.after hk) he
  · obtain rfl : hand = 3 := by omega
    refine (written3 (Cx.inner hh0 B F X T rfl rfl) R.inner (by assumption) hx).useT (by assumption) ?_
    intro h' tk' r ht' hk he
    walk_at "my go"
    exact ret _ _ _ _ (F.after hk) he
  · obtain rfl : hand = 4 := by omega
    refine (written4 (Cx.inner hh0 B F X T rfl rfl) R.inner (by assumption) hx).useT (by assumption) ?_
    intro h' tk' r ht' hk he
    walk_at "my go"
    exact ret _ _ _ _ (F.after hk) he
end Mine
end
section
open PySem PySem.W PyProof.Rows PySem.Calls
open Mine
local macro_rules | `(tactic| walk_at "execs cons") => `(tactic| (refine execs_consK ?ht ?_; (case ht => walk_at "my tok"); intro tk9 ht9; (try dsimp only)))
local macro_rules | `(tactic| walk_at "my base") => `(tactic| ((fail_if_success (with_reducible show wpAny _ _ (exec (Stmt.For _ _ _ _ _) _) _ _ _)); (fail_if_success (with_reducible show wpAny _ _ (subscriptTail _ _ (Value.ref _) _) _ _ _)); (fail_if_success (with_reducible show wpAny _ _ (binaryOp _ (Value.str _ _) _) _ _ _)); (fail_if_success (with_reducible show wpAny _ _ (pyIter _) _ _ _))))
local macro_rules | `(tactic| walk_at "my blt") => `(tactic| ((fail_if_success (with_reducible show wpAny _ _ (PySem.call (Value.builtin _) _ _) _ _ _))))
local macro_rules | `(tactic| walk_at "my if") => `(tactic| ((fail_if_success (with_reducible show wpAny _ _ (exec (Stmt.Assign _ (Expr.IfExp _ _ _ _) _) _) _ _ _))))
local macro_rules | `(tactic| walk_at "my pow") => `(tactic| ((fail_if_success (with_reducible show wpAny _ _ (exec (Stmt.Assign _ (Expr.BinOp _ _ (Expr.IfExp _ _ _ _) _) _) _) _ _ _)); (fail_if_success (with_reducible show wpAny _ _ (binaryOp .Pow _ _) _ _ _))))
local macro_rules | `(tactic| walk_at "my while") => `(tactic| ((fail_if_success (with_reducible show wpAny _ _ (exec (Stmt.While _ _ _ _) _) _ _ _)); (fail_if_success (with_reducible show wpAny _ _ (subscriptTail _ _ (Value.str _ _) _) _ _ _))))
local macro_rules | `(tactic| walk_at "my len") => `(tactic| ((fail_if_success (with_reducible show wpAny _ _ (PySem.call (Value.builtin "len") _ _) _ _ _))))
local macro_rules | `(tactic| walk_at "my leave") => `(tactic| ((fail_if_success (with_reducible show wpAny _ _ (leaving _ _) _ _ _))))
local macro_rules | `(tactic| walk_at "my ex") => `(tactic| (fail_if_success (with_reducible show Exists _)))
local macro_rules | `(tactic| walk_at "my init") => `(tactic| ((fail_if_success (with_reducible show wpAny _ _ (exec (Stmt.If (Expr.Compare _ [CmpOp.GtE] _ _) _ _ _) _) _ _ _)); (fail_if_success (with_reducible show wpAny _ _ (binaryOp .Mult (Value.ref _) _) _ _ _)); (fail_if_success (with_reducible show wpAny _ _ (binaryOp .Add (Value.ref _) _) _ _ _)); (fail_if_success (with_reducible show wpAny _ _ (setItem _ _ _) _ _ _))))
-- MEnds
section
open PySem PySem.W PyProof.Rows PySem.Calls
set_option maxRecDepth 100000
set_option Elab.async false
set_option linter.unusedVariables false
set_option maxHeartbeats 4000000
namespace Mine
local macro_rules | `(tactic| walk_at "my go") => `(tactic| repeat' (walk_at "my call"; walk_at "my base"; walk_at "my blt"; walk_at "my one"))
local macro_rules | `(tactic| walk_at "evalPairs") => `(tactic| dsimp only)
local macro_rules | `(tactic| walk_at "Exists") => `(tactic| dsimp only)
theorem fillN : PySem.Challenge.rw_wn0108_01 = PySem.Challenge.rw_wn0108_01 ∧ Mine.hd.heap_39 = Mine.hd.heap_39 := by
  k_fill
  exact ⟨rfl, rfl⟩

/-- what stands behind the & of a sign's reference -/
noncomputable def endo (hand c : Nat) : Option (List Nat) := match hand with
  | 0 => if c = 38 then some [97, 109, 112, 59] else if c = 60 then some [108, 116, 59] else if c = 62 then some [103, 116, 59] else none
  | 1 => if c = 38 then some [97, 109, 112, 59] else if c = 60 then some [108, 116, 59] else if c = 62 then some [103, 116, 59] else if c = 13 then some [35, 120, 68, 59] else none
  | 2 => if c = 38 then some [97, 109, 112, 59] else if c = 60 then some [108, 116, 59] else if c = 62 then some [103, 116, 59] else if c = 34 then some [113, 117, 111, 116, 59] else if c = 9 then some [35, 48, 57, 59] else if c = 10 then some [35, 49, 48, 59] else if c = 13 then some [35, 49, 51, 59] else none
  | 3 => if c = 38 then some [97, 109, 112, 59] else if c = 60 then some [108, 116, 59] else if c = 34 then some [113, 117, 111, 116, 59] else if c = 9 then some [35, 120, 57, 59] else if c = 10 then some [35, 120, 65, 59] else if c = 13 then some [35, 120, 68, 59] else none
  | _ => if c = 38 then some [97, 109, 112, 59] else if c = 62 then some [103, 116, 59] else if c = 34 then some [113, 117, 111, 116, 59] else none
theorem em_endo (hand c : Nat) : em hand c = match endo hand c with | some l => 38 :: l | none => [c] := by
  unfold em endo
  split <;> (repeat' split) <;> first | rfl | simp_all
noncomputable def Ends1 (r : Option Value) (e : Option (List Nat)) : Prop := match e with | some l => ∃ t, r = some (.str (S l) t) | none => r = none
theorem ends_if {c k : Nat} {x : Str} {t : Tok} {l : List Nat} {r : Option Value} {e : Option (List Nat)} (hx : x = S l) (h : Ends1 r e) : Ends1 (if c = k then some (.str x t) else r) (if c = k then some l else e) := by
  subst hx
  split
  · exact ⟨t, rfl⟩
  · exact h
/-- the table of ends, as an object -/
noncomputable def EndsObj (prog : Program) (w : World) (o : Obj) (hand : Nat) : Prop :=
  ∃ kvs, o.IsDictOf (PySem.strKind prog w) kvs ∧ ∀ c, Ends1 (valueAt kvs (S [c])) (endo hand c)
noncomputable def EndsAt (prog : Program) (w : World) (h : Heap) (a : Addr) (hand : Nat) : Prop := ∃ o, h.get? a = some o ∧ (a == sysModules) = false ∧ EndsObj prog w o hand
theorem EndsAt.keep {prog : Program} {w : World} {h h' : Heap} {a : Addr} {hand : Nat} (x : EndsAt prog w h a hand) (k : Keep h h') : EndsAt prog w h' a hand := let ⟨o, ho, r⟩ := x; ⟨o, k _ _ ho, r⟩
theorem valueAt_cons {x : Str} {k : Nat} (hx : x = S [k]) (v : Value) (r : List (Str × Value)) (c : Nat) : valueAt ((x, v) :: r) (S [c]) = if c = k then some v else valueAt r (S [c]) := by
  subst hx
  unfold valueAt
  by_cases h : c = k
  · subst h; simp
  · have : ¬ S [k] = S [c] := fun e => h (by have := S_inj.mp e; simpa using this.symm)
    simp [h, this]
theorem valueAt_nil (c : Nat) : valueAt ([] : List (Str × Value)) (S [c]) = none := rfl
theorem ends_open {prog : Program} {w : World} {h : Heap} {a : Addr} {hand : Nat} (x : EndsAt prog w h a hand) : (a == sysModules) = false ∧ ∃ f, h.MapOf (PySem.strKind prog w) a f ∧ ∀ c, Ends1 (f (S [c])) (endo hand c) := by
  obtain ⟨o, ho, lo, kvs, hd, hv⟩ := x
  exact ⟨lo, _, Heap.DictOf.mapOf (Heap.dictOf_iff.mpr ⟨o, ho, hd⟩), hv⟩

theorem ends_spec {prog : Program} {w : World} {A : Around} {s : Shared} (C : Cx w A s.heap) (R : Rm A 1) (ht : 1 ≤ s.toks) {t2 : Tok} {hand : Nat} (hh : hand < 5) :
    Gives prog w A 173 [.int (hand : Int) t2] s (fun h r => ∃ a o, r = .ref a ∧ s.heap.get? a = none ∧ h.get? a = some o ∧ (a == sysModules) = false ∧ EndsObj prog w o hand) := by
  refine enter (binds := [("hand", .int (hand : Int) t2)]) C (by k_is) (by k_is) (by have := R.d; omega) (BindsTo.of_eq rfl) (locs rfl) (by decide) rfl rfl rfl ?_
  intro g L h₁ base fr p loose mean mg mb Q hg F N B X T ret
  rw [← hg] at ret
  have hh0 := C.hh
  clear C
  walk_at "my go"
  · (rename Fr _ _ _ _ => F6)
    (rename News _ _ _ _ => N6)
    (rename Obj.IsDictOf _ _ _ => D6)
    (rename (_ == sysModules) = false => lo6)
    obtain rfl : hand = 0 := by omega
    refine ret _ _ _ _ F6 ⟨_, _, rfl, (N6 _ (.head _)).2.2, (N6 _ (.head _)).1, lo6, _, D6, ?_⟩
    intro c
    dsimp only [strPairs]
    rw [valueAt_cons (k := 38) (by decide +kernel), valueAt_cons (k := 60) (by decide +kernel), valueAt_cons (k := 62) (by decide +kernel), valueAt_nil]
    refine ends_if (l := [97, 109, 112, 59]) (by decide +kernel) ?_
    refine ends_if (l := [108, 116, 59]) (by decide +kernel) ?_
    refine ends_if (l := [103, 116, 59]) (by decide +kernel) ?_
    exact rfl
  · (rename Fr _ _ _ _ => F6)
    (rename News _ _ _ _ => N6)
    (rename Obj.IsDictOf _ _ _ => D6)
    (rename (_ == sysModules) = false => lo6)
    obtain rfl : hand = 1 := by omega
    refine ret _ _ _ _ F6 ⟨_, _, rfl, (N6 _ (.head _)).2.2, (N6 _ (.head _)).1, lo6, _, D6, ?_⟩
    intro c
    dsimp only [strPairs]
    rw [valueAt_cons (k := 38) (by decide +kernel), valueAt_cons (k := 60) (by decide +kernel), valueAt_cons (k := 62) (by decide +kernel), valueAt_cons (k := 13) (by decide +kernel), valueAt_nil]
    refine ends_if (l := [97, 109, 112, 59]) (by decide +kernel) ?_
    refine ends_if (l := [108, 116, 59]) (by decide +kernel) ?_
    refine ends_if (l := [103, 116, 59]) (by decide +kernel) ?_
    refine ends_if (l := [35, 120, 68, 59]) (by decide +kernel) ?_
    exact rfl
  · (rename Fr _ _ _ _ => F6)
    (rename News _ _ _ _ => N6)
    (rename Obj.IsDictOf _ _ _ => D6)
    (rename (_ == sysModules) = false => lo6)
    obtain rfl : hand = 2 := by omega
    refine ret _ _ _ _ F6 ⟨_, _, rfl, (N6 _ (.head _)).2.2, (N6 _ (.head _)).1, lo6, _, D6, ?_⟩
    intro c
    dsimp only [strPairs]
    rw [valueAt_cons (k := 38) (by decide +kernel), valueAt_cons (k := 60) (by decide +kernel), valueAt_cons (k := 62) (by decide +kernel), valueAt_cons (k := 34) (by decide +kernel), valueAt_cons (k := 9) (by decide +kernel), valueAt_cons (k := 10) (by decide +kernel), valueAt_cons (k := 13) (by decide +kernel), valueAt_nil]
    refine ends_if (l := [97, 109, 112, 59]) (by decide +kernel) ?_
    refine ends_if (l := [108, 116, 59]) (by decide +kernel) ?_
    refine ends_if (l := [103, 116, 59]) (by decide +kernel) ?_
    refine ends_if (l := [113, 117, 111, 116, 59]) (by decide +kernel) ?_
    refine ends_if (l := [35, 48, 57, 59]) (by decide +kernel) ?_
    refine ends_if (l := [35, 49, 48, 59]) (by decide +kernel) ?_
    refine ends_if (l := [35, 49, 51, 59]) (by decide +kernel) ?_
    exact rfl
  · (rename Fr _ _ _ _ => F6)
    (rename News _ _ _ _ => N6)
    (rename Obj.IsDictOf _ _ _ => D6)
    (rename (_ == sysModules) = false => lo6)
    obtain rfl : hand = 3 := by omega
    refine ret _ _ _ _ F6 ⟨_, _, rfl, (N6 _ (.head _)).2.2, (N6 _ (.head _)).1, lo6, _, D6, ?_⟩
    intro c
    dsimp only [strPairs]
    rw [valueAt_cons (k := 38) (by decide +kernel), valueAt_cons (k := 60) (by decide +kernel), valueAt_cons (k := 34) (by decide +kernel), valueAt_cons (k := 9) (by decide +kernel), valueAt_cons (k := 10) (by decide +kernel), valueAt_cons (k := 13) (by decide +kernel), valueAt_nil]
    refine ends_if (l := [97, 109, 112, 59]) (by decide +kernel) ?_
    refine ends_if (l := [108, 116, 59]) (by decide +kernel) ?_
    refine ends_if (l := [113, 117, 111, 116, 59]) (by decide +kernel) ?_
    refine ends_if (l := [35, 120, 57, 59]) (by decide +kernel) ?_
    refine ends_if (l := [35, 120, 65, 59]) (by decide +kernel) ?_
    refine ends_if (l := [35, 120, 68, 59]) (by decide +kernel) ?_
    exact rfl
  · (rename Fr _ _ _ _ => F6)
    (rename News _ _ _ _ => N6)
    (rename Obj.IsDictOf _ _ _ => D6)
    (rename (_ == sysModules) = false => lo6)
    obtain rfl : hand = 4 := by omega
    refine ret _ _ _ _ F6 ⟨_, _, rfl, (N6 _ (.head _)).2.2, (N6 _ (.head _)).1, lo6, _, D6, ?_⟩
    intro c
    dsimp only [strPairs]
    rw [valueAt_cons (k := 38) (by decide +kernel), valueAt_cons (k := 62) (by decide +kernel), valueAt_cons (k := 34) (by decide +kernel), valueAt_nil]
    refine ends_if (l := [97, 109, 112, 59]) (by decide +kernel) ?_
    refine ends_if (l := [103, 116, 59]) (by decide +kernel) ?_
    refine ends_if (l := [113, 117, 111, 116, 59]) (by decide +kernel) ?_
    exact rfl
end Mine
end
section
open PySem PySem.W PyProof.Rows PySem.Calls
open Mine
local macro_rules | `(tactic| walk_at "exec For") => `(tactic| fail "mine: a loop")
local macro_rules | `(tactic| walk_at "call type:range") => `(tactic| (first | refine range1_rows (by assumption) (by assumption) ?_ | refine range2_rows (by assumption) (by assumption) ?_ | refine range3_rows (by assumption) (by assumption) (by decide) ?_; intro h9 tk9 t9 u9 v9 hr9 F9 N9 hk9))
-- MWithin
section
open PySem PySem.W PyProof.Rows PySem.Calls
set_option maxRecDepth 100000
set_option Elab.async false
set_option linter.unusedVariables false
set_option maxHeartbeats 4000000
namespace Mine
local macro_rules | `(tactic| walk_at "my go") => `(tactic| repeat' (walk_at "my call"; walk_at "my base"; walk_at "my blt"; walk_at "my one"))
theorem fillI : PySem.Challenge.rw_wn0108_01 = PySem.Challenge.rw_wn0108_01 ∧ Mine.hd.heap_39 = Mine.hd.heap_39 := by
  k_fill
  exact ⟨rfl, rfl⟩

noncomputable def within (hand : Nat) : List (Nat × Nat) → Nat → List Nat
  | [], _ => []
  | (d, c) :: rest, depth => (if d = depth then 60 :: esc hand (c :: within hand (rest.takeWhile fun n => decide (depth < n.1)) (depth + 1)) ++ [62] else []) ++ within hand rest depth
termination_by t => t.length
decreasing_by
  · have := (List.takeWhile_sublist (p := fun n : Nat × Nat => decide (depth < n.1)) (l := rest)).length_le
    simp only [List.length_cons]; omega
  · simp

theorem within_len (hand : Nat) : ∀ (n : Nat) (t : List (Nat × Nat)) (d : Nat), t.length ≤ n → (within hand t d).length + 2 ≤ 2 * 8 ^ n := by
  intro n
  induction n with
  | zero =>
    intro t d h
    have : t = [] := List.length_eq_zero_iff.mp (by omega)
    subst this
    rw [within]; decide
  | succ n ih =>
    intro t d h
    have hp : 0 < 8 ^ n := Nat.pow_pos (by decide)
    have e8 : 8 ^ (n + 1) = 8 ^ n * 8 := Nat.pow_succ ..
    match t with
    | [] => rw [within]; simp; omega
    | (k, c) :: rest =>
      have hr : rest.length ≤ n := by simpa using h
      have h1 := ih rest d hr
      have h2 := ih (rest.takeWhile fun n => decide (d < n.1)) (d + 1) (Nat.le_trans (List.takeWhile_sublist _).length_le hr)
      have h3 := esc_len hand (c :: within hand (rest.takeWhile fun n => decide (d < n.1)) (d + 1))
      rw [within, List.length_append]
      simp only [List.length_cons] at h3
      split
      · simp only [List.length_cons, List.length_append, List.length_nil]; omega
      · simp only [List.length_nil]; omega

theorem within_spec {prog : Program} {w : World} {hand : Nat} (hhand : hand < 5) : ∀ (n : Nat) (tree : List (Nat × Nat)) (depth : Nat) (A : Around) (s : Shared) (C : Cx w A s.heap) (R : Rm A (n + 3)) (ht : 1 ≤ s.toks) (a : Addr) (t2 t3 : Tok),
    tree.length ≤ n → n ≤ 6 → depth + n ≤ 100 → TreeAt s.heap a tree →
    Gives prog w A 187 [.ref a, .int (depth : Int) t2, .int (hand : Int) t3] s (fun h r => ∃ t, r = .str (S (within hand tree depth)) t) := by
  intro n
  induction n using Nat.strongRecOn with
  | ind n ih =>
  intro tree depth A s C R ht a t2 t3 hlen hn hdep hT
  refine enter (binds := [("tree", .ref a), ("depth", .int (depth : Int) t2), ("hand", .int (hand : Int) t3)]) C (by k_is) (by k_is) (by have := R.d; omega) (BindsTo.of_eq rfl) (locs rfl) (by decide) rfl rfl rfl ?_
  intro g L h₁ base fr p loose mean mg mb Q hg F N B X T ret
  rw [← hg] at hT
  have hh0 := C.hh
  clear C
  walk_at "my go"
  obtain ⟨vs, hl, hn'⟩ := id hT
  have hlen' : vs.length = tree.length := hn'.length
  refine cutN (fun h' => ∃ m' t', Fr g L h' m' ∧ News g L h' [] ∧ m' "told" = some (.str (S (within hand tree depth)) t')) ?loop ?after
  case loop =>
    refine forT (by walk_at "my tok") ?_
    walk_at "my go"
    (rename Fr _ _ _ _ => F)
    refine len_list (isList_keep hl F.keep) (by simp; omega) ?_
    walk_at "my go"
    (rename IsRange _ _ _ _ _ _ _ _ => hr)
    (rename Fr _ _ _ _ => F)
    (rename News _ _ _ _ => N)
    refine iterUp (tree.length) (fun i m news => news = [] ∧ m "tree" = some (.ref a) ∧ m "depth" = some (.int depth t2) ∧ m "hand" = some (.int hand t3) ∧ ∃ x t', m "told" = some (.str (S x) t') ∧ x ++ within hand (tree.drop i) depth = within hand tree depth)
      hh0 rfl rfl hr (by decide) (by decide) (by rw [List.size_toArray]; omega) (by rw [List.size_toArray]; omega) (by rw [List.size_toArray]; omega) F N (by assumption) ⟨rfl, rfl, rfl, rfl, [], _, rfl, by simp⟩ ?turn ?done
    case done =>
      rintro h tk m₁ news₁ htk F N ⟨rfl, e1, e2, e3, x, t', e4, hx⟩
      refine On.mk' htk ⟨m₁, t', F, N, ?_⟩
      have : within hand (tree.drop tree.length) depth = [] := by rw [List.drop_length, within]
      rw [this, List.append_nil] at hx
      rw [← hx]; exact e4
    case turn =>
      rintro i t m₁ news₁ I oI h tk hi ⟨rfl, e1, e2, e3, x, t', e4, hx⟩ hI htk F N
      rw [Int.zero_add] at F
      obtain ⟨n, rfl⟩ : ∃ k, n = k + 1 := ⟨n - 1, by omega⟩
      obtain ⟨⟨d, c⟩, hnd⟩ : ∃ nd, tree[i] = nd := ⟨_, rfl⟩
      have hnd' : tree[i]? = some (d, c) := by rw [List.getElem?_eq_getElem hi, hnd]
      have F := fr_say F (x := "tree") (v := .ref a) (by simp +decide [e1])
      have F := fr_say F (x := "depth") (v := .int depth t2) (by simp +decide [e2])
      have F := fr_say F (x := "hand") (v := .int hand t3) (by simp +decide [e3])
      have F := fr_say F (x := "told") (v := .str (S x) t') (by simp +decide [e4])
      walk_at "my go"
      refine itemN (hT.keep (Fr.keep (by assumption))) hnd' (by omega) ?_
      intro b u1 u2 hb
      walk_at "my go"
      refine node0 hb ?_
      walk_at "my go"
      · rename_i hd _ _ bn _ _ _ hbnI hB FB NB _ tkB htB
        clear hI
        have hb' : IsTup h b #[Value.int (d : Int) u1, Value.str (S [c]) u2] := hb
        have hd' : d = depth := by
          have : (d : Int) = (depth : Int) := hd
          omega
        subst hd'
        have hn2 : NodesAt g (vs.drop (i + 1)) (tree.drop (i + 1)) := hn'.drop (i + 1)
        have hlen2 : (vs.drop (i + 1)).length = (tree.drop (i + 1)).length := hn2.length
        generalize hvs : vs.drop (i + 1) = vs' at hn2 hlen2
        generalize hts : tree.drop (i + 1) = ts at hn2 hlen2
        refine cutN (fun h' => ∃ m' nn j, Fr g L h' m' ∧ News g L h' [(bn, W.listOf (vs'.take j).toArray nn), (I, oI)] ∧ ts.take j = ts.takeWhile (fun n => decide (d < n.1)) ∧
          m' "tree" = some (.ref a) ∧ m' "depth" = some (.int d t2) ∧ m' "hand" = some (.int hand t3) ∧ m' "told" = some (.str (S x) t') ∧ m' "k" = some (.int i t) ∧ m' "beneath" = some (.ref bn)) ?inner ?behind
        case inner =>
          refine forT (by walk_at "my tok") ?_
          walk_at "my go"
          refine kmk_slice FB NB (isList_keep hl FB.keep) (.int _ _) .none ?_ (by with_unfolding_all rfl) (by intro _; with_unfolding_all rfl) (by rw [List.size_toArray, sizeLine_eq]; omega)
          intro D hD FD ND hlt
          have hpick : slicePick vs.toArray (some ((i : Int) + 1)) none none = vs'.toArray := by
            rw [← hvs, ← Array.toArray_toList (xs := slicePick _ _ _ _), pick_from _ _ (by omega)]
            congr 2
          rw [hpick] at ND
          have hlt1 : I < D := hlt (I, oI) (by simp)
          have hlt2 : bn < D := hlt (bn, _) (.head _)
          clear hlt
          walk_at "my go"
          refine iterList (vs := vs') (fun j m news => ∃ nn, news = [(bn, W.listOf (vs'.take j).toArray nn), (D, W.listOf vs'.toArray 0), (I, oI)] ∧ (∀ nd ∈ ts.take j, d < nd.1) ∧
              m "tree" = some (.ref a) ∧ m "depth" = some (.int d t2) ∧ m "hand" = some (.int hand t3) ∧ m "told" = some (.str (S x) t') ∧ m "k" = some (.int i t) ∧ m "beneath" = some (.ref bn))
            hh0 rfl rfl (News.isList ND (.head _)) (fun e => (ND _ (.head _)).2.1 e) (.inr ⟨W.listOf vs'.toArray 0, ?hax⟩) FD (news := [(bn, W.listOf (vs'.take 0).toArray 0), (D, W.listOf vs'.toArray 0), (I, oI)]) ?hN (by assumption)
            ⟨0, rfl, by simp, rfl, rfl, rfl, rfl, rfl, rfl⟩ ?turn2 ?done2
          case hN =>
            intro p hp
            rcases List.mem_cons.mp hp with rfl | hp
            · exact ND _ (.tail _ (.head _))
            · rcases List.mem_cons.mp hp with rfl | hp
              · exact ND _ (.head _)
              · exact ND _ (.tail _ (.tail _ hp))
          case hax =>
            rintro j m news ⟨nn, rfl, _⟩
            exact .tail _ (.head _)
          case done2 =>
            rintro h2 tk2 m2 news2 htk2 F2 N2 ⟨nn, rfl, hall, f1, f2, f3, f4, f5, f6⟩
            refine On.mk' htk2 ⟨m2, nn, vs'.length, F2, ?_, ?_, f1, f2, f3, f4, f5, f6⟩
            · intro p hp
              rw [List.take_length] at hp
              rw [List.take_length] at N2
              rcases List.mem_cons.mp hp with rfl | hp
              · exact N2 _ (.head _)
              · rcases List.mem_cons.mp hp with rfl | hp
                · exact N2 _ (.tail _ (.tail _ (.head _)))
                · cases hp
            · rw [hlen2, List.take_length] at hall ⊢
              exact (takeWhile_all (fun nd h => decide_eq_true (hall nd h))).symm
          case turn2 =>
            rintro j v m2 news2 I2 oI2 h2 tk2 hv ⟨nn, rfl, hall, f1, f2, f3, f4, f5, f6⟩ hI2 htk2 F2 N2
            obtain ⟨⟨d2, c2⟩, hts2, b2, u3, u4, rfl, hb2⟩ := hn2.getV hv
            have F2 := fr_say F2 (x := "tree") (v := .ref a) (by simp +decide [f1])
            have F2 := fr_say F2 (x := "depth") (v := .int d t2) (by simp +decide [f2])
            have F2 := fr_say F2 (x := "hand") (v := .int hand t3) (by simp +decide [f3])
            have F2 := fr_say F2 (x := "told") (v := .str (S x) t') (by simp +decide [f4])
            have F2 := fr_say F2 (x := "k") (v := .int i t) (by simp +decide [f5])
            have F2 := fr_say F2 (x := "beneath") (v := .ref bn) (by simp +decide [f6])
            have g1 : bn ≠ I2 := hI2 (bn, _) (.head _)
            have g2 : D ≠ I2 := hI2 (D, _) (.tail _ (.head _))
            have g3 : I ≠ I2 := hI2 (I, _) (.tail _ (.tail _ (.head _)))
            clear hI2
            walk_at "my go"
            refine node0 (nd := (d2, c2)) (hb2.keeps F2.keep) ?_
            walk_at "my go"
            · (rename (_ : Int) ≤ _ => hle)
              have hle' : d2 ≤ d := by
                have : ((d2 : Nat) : Int) ≤ (d : Int) := hle
                omega
              dsimp only
              refine On.mk' (by assumption) ⟨_, nn, j, F2, ?_, ?_, rfl, rfl, rfl, rfl, rfl, rfl⟩
              · intro p hp
                rcases List.mem_cons.mp hp with rfl | hp
                · exact N2 _ (.tail _ (.head _))
                · exact N2 _ (.tail _ (.tail _ (.tail _ hp)))
              · exact (takeWhile_at (fun nd h => decide_eq_true (hall nd h)) hts2 (decide_eq_false (by omega))).symm
            · (rename ¬ (_ : Int) ≤ _ => hle)
              have hle' : d < d2 := by
                have : ¬ ((d2 : Nat) : Int) ≤ (d : Int) := hle
                omega
              refine append_K F2 N2 (.tail (Ne.symm g1) (.head ?_)) ?_ ?_
              · intro p hp
                rcases List.mem_cons.mp hp with rfl | hp
                · exact fun e => absurd hlt2 (e ▸ Nat.lt_irrefl _)
                · rcases List.mem_cons.mp hp with rfl | hp
                  · exact fun e => absurd hbnI (e ▸ Nat.lt_irrefl _)
                  · cases hp
              · intro h4 F4 N4
                walk_at "my go"
                dsimp only
                refine TurnE.next F4 N4 ?_ ⟨nn + 1, ?_, ?_, rfl, rfl, rfl, rfl, rfl, rfl⟩
                · intro p hp
                  rcases List.mem_cons.mp hp with rfl | hp
                  · exact g1
                  · rcases List.mem_cons.mp hp with rfl | hp
                    · exact g2
                    · rcases List.mem_cons.mp hp with rfl | hp
                      · exact g3
                      · cases hp
                · rw [List.take_add_one, hv]; simp
                · intro nd hnd
                  rw [List.take_add_one, hts2] at hnd
                  rcases List.mem_append.mp hnd with h | h
                  · exact hall nd h
                  · simp at h; subst h; exact hle'
              · rw [List.size_toArray, sizeLine_eq, List.length_take, ← hvs, List.length_drop]; omega
        case behind => 
          rintro h3 tk3 htk3 ⟨m3, nn, j, F3, N3, htake, f1, f2, f3, f4, f5, f6⟩
          refine fun _ => ?_
          have F3 := fr_say F3 (x := "tree") (v := .ref a) (by simp +decide [f1])
          have F3 := fr_say F3 (x := "depth") (v := .int d t2) (by simp +decide [f2])
          have F3 := fr_say F3 (x := "hand") (v := .int hand t3) (by simp +decide [f3])
          have F3 := fr_say F3 (x := "told") (v := .str (S x) t') (by simp +decide [f4])
          have F3 := fr_say F3 (x := "k") (v := .int i t) (by simp +decide [f5])
          have F3 := fr_say F3 (x := "beneath") (v := .ref bn) (by simp +decide [f6])
          dsimp only
          walk_at "my go"
          refine itemN (hT.keep F3.keep) hnd' (by omega) ?_
          intro b5 u5 u6 hb5
          walk_at "my go"
          refine node1 hb5 ?_
          walk_at "my go"
          have hbl : (ts.take j).length ≤ n := by
            rw [← hts]
            have := List.length_take_le j (tree.drop (i + 1))
            rw [List.length_take, List.length_drop]; omega
          have hbt : TreeAt h3 bn (ts.take j) := ⟨vs'.take j, News.isList N3 (.head _), (hn2.take j).keep F3.keep⟩
          refine (ih n (Nat.lt_succ_self n) (ts.take j) (d + 1) _ _ (Cx.inner hh0 B F3 X T rfl rfl) R.inner (by walk_at "my tok") bn _ t3 hbl (by omega) (by omega) hbt).useT (by walk_at "my tok") ?_
          rintro h5 tk5 r5 ht5 hk5 ⟨t5, rfl⟩
          have F5 := F3.after hk5
          have N5 := News.keep N3 hk5
          clear F3 N3
          have hwl := within_len hand n (ts.take j) (d + 1) hbl
          have hxl : x.length ≤ 600000 := by
            have h1 := congrArg List.length hx
            have h2 := within_len hand 6 tree d (by omega)
            rw [List.length_append] at h1
            have : 2 * 8 ^ 6 = 524288 := by decide
            omega
          have hpl : 2 * 8 ^ n ≤ 2 * 8 ^ 5 := Nat.mul_le_mul_left _ (Nat.pow_le_pow_right (by decide) (by omega))
          have h85 : 2 * 8 ^ 5 = 65536 := by decide
          dsimp only
          refine addS (by walk_at "my tok") (a := [c]) (b := within hand (ts.take j) (d + 1)) rfl rfl (by simp; omega) ?_
          intro t6 tk6 htk6
          walk_at "my go"
          refine addS (by walk_at "my tok") (b := [60]) rfl (by decide +kernel) (by simp; omega) ?_
          intro t7 tk7 htk7
          walk_at "my go"
          (rename Fr _ _ _ _ => F6)
          (rename News _ _ _ _ => N6)
          refine (written (Cx.inner hh0 B F6 X T rfl rfl) (R.inner.le (by omega)) htk7 (by simp; omega) hhand).useT htk7 ?_
          rintro h8 tk8 r8 ht8 hk8 ⟨t8, rfl⟩
          have F8 := F6.after hk8
          have N8 := News.keep N6 hk8
          have hel := esc_len hand ([c] ++ within hand (ts.take j) (d + 1))
          simp only [List.length_append, List.length_cons, List.length_nil] at hel
          dsimp only
          refine addS ht8 (a := x ++ [60]) (b := esc hand ([c] ++ within hand (ts.take j) (d + 1))) rfl rfl (by rw [List.length_append, List.length_cons, List.length_nil]; omega) ?_
          intro t9 tk10 htk10
          walk_at "my go"
          refine addS (by walk_at "my tok") (a := x ++ [60] ++ esc hand ([c] ++ within hand (ts.take j) (d + 1))) (b := [62]) rfl (by decide +kernel) (by simp only [List.length_append, List.length_cons, List.length_nil]; omega) ?_
          intro t10 tk11 htk11
          walk_at "my go"
          (rename Fr _ _ _ _ => F9)
          (rename News _ _ _ _ => N9)
          refine TurnE.next (news' := []) F9 (fun p hp => ?_) (fun _ hp => nomatch hp) ⟨rfl, rfl, rfl, rfl, _, _, rfl, ?_⟩
          · rcases List.mem_cons.mp hp with rfl | hp
            · exact N9 _ (.tail _ (.head _))
            · cases hp
          · rw [← hx]
            have e1 : tree.drop i = (d, c) :: ts := by rw [← hts, ← hnd]; exact List.drop_eq_getElem_cons hi
            rw [e1, within, if_pos rfl, ← htake, ← hts]
            simp
      · (rename ¬ @Eq Int _ _ => hd)
        (rename Fr _ _ _ _ => F6)
        (rename News _ _ _ _ => N6)
        have hd' : ¬ d = depth := fun e => hd (by subst e; rfl)
        refine TurnE.next F6 N6 hI ⟨rfl, rfl, rfl, rfl, _, _, rfl, ?_⟩
        rw [← hx]
        have e1 : tree.drop i = (d, c) :: tree.drop (i + 1) := by rw [← hnd]; exact List.drop_eq_getElem_cons hi
        rw [e1, within, if_neg hd']
        simp
  case after =>
    rintro h' tk' htk' ⟨m', t', F', N', e⟩
    refine fun _ => ?_
    have F' := fr_say F' (x := "told") e
    dsimp only
    walk_at "my go"
    exact ret _ _ _ _ F' ⟨_, rfl⟩
end Mine
end
-- MSpelled
section
open PySem PySem.W PyProof.Rows PySem.Calls
set_option maxRecDepth 100000
set_option Elab.async false
set_option linter.unusedVariables false
set_option maxHeartbeats 4000000
namespace Mine
local macro_rules | `(tactic| walk_at "my go") => `(tactic| repeat' (walk_at "my call"; walk_at "my base"; walk_at "my blt"; walk_at "my one"))
local macro_rules | `(tactic| walk_at "compareOp NotIn") => `(tactic| fail "mine")
theorem fillS : PySem.Challenge.rw_wn0108_01 = PySem.Challenge.rw_wn0108_01 ∧ Mine.hd.heap_39 = Mine.hd.heap_39 := by
  k_fill
  exact ⟨rfl, rfl⟩
noncomputable def spelledL (hand c k : Nat) : List Nat := if k = 0 then [c] else match endo hand c with
  | none => [c]
  | some l => 38 :: ((List.replicate (k - 1) [97, 109, 112, 59]).flatten ++ l)

theorem spelled_spec {prog : Program} {w : World} {A : Around} {s : Shared} (C : Cx w A s.heap) (R : Rm A 1) (ht : 1 ≤ s.toks) {t1 t2 : Tok} {hand c k : Nat} {e : Addr} (hE : EndsAt prog w s.heap e hand) (hk : k ≤ 100) :
    Gives prog w A 194 [.str (S [c]) t1, .int (k : Int) t2, .ref e] s (fun h r => ∃ t, r = .str (S (spelledL hand c k)) t) := by
  refine enter (binds := [("sign", .str (S [c]) t1), ("times", .int (k : Int) t2), ("ends", .ref e)]) C (by k_is) (by k_is) (by have := R.d; omega) (BindsTo.of_eq rfl) (locs rfl) (by decide) rfl rfl rfl ?_
  intro g L h₁ base fr p loose mean mg mb Q hg F N B X T ret
  rw [← hg] at hE
  have hh0 := C.hh
  clear C
  walk_at "my go"
  · have hk0 : k = 0 := by omega
    refine ret _ _ _ _ F ⟨t1, congrArg (fun l => Value.str (S l) t1) ?_⟩
    rw [spelledL, if_pos hk0]
  · obtain ⟨lo, f, hM, hf⟩ := ends_open (hE.keep F.keep)
    have hk0 : ¬ k = 0 := by omega
    refine wpAny_notIn_of (strKind_is prog w (S [c]) t1) lo hM ?_
    have hfc := hf c
    cases he : endo hand c with
    | none =>
      rw [he] at hfc
      have hfc' : f (S [c]) = none := hfc
      rw [hfc']
      dsimp only [Option.isSome]
      walk_at "my go"
      refine ret _ _ _ _ F ⟨t1, congrArg (fun l => Value.str (S l) t1) ?_⟩
      rw [spelledL, if_neg hk0, he]
    | some l =>
      rw [he] at hfc
      obtain ⟨tt, hfc'⟩ := hfc
      rw [hfc']
      dsimp only [Option.isSome]
      walk_at "my go"
      dsimp only
      have hll : l.length ≤ 6 := by
        have h1 := em_len hand c
        rw [em_endo, he] at h1
        simp only [List.length_cons] at h1; omega
      refine mulS 100 (a := [97, 109, 112, 59]) (by walk_at "my tok") (by decide +kernel) (by omega) (by omega) (by decide) (by decide) ?_
      intro t6 tk6 htk6
      have hrl : (List.replicate ((k : Int) - 1).toNat [97, 109, 112, 59]).flatten.length ≤ 400 := by
        rw [List.length_flatten, List.map_replicate, List.sum_replicate_nat]
        simp only [List.length_cons, List.length_nil]; omega
      dsimp only
      refine addS htk6 (a := [38]) (by decide +kernel) rfl (by simp only [List.length_cons, List.length_nil]; omega) ?_
      intro t7 tk7 htk7
      walk_at "my go"
      obtain ⟨lo2, f2, hM2, hf2⟩ := ends_open (hE.keep F.keep)
      have hfc2 := hf2 c
      rw [he] at hfc2
      obtain ⟨tt2, hfc2'⟩ := hfc2
      refine itemD hM2 hfc2' ?_
      dsimp only
      refine addS (by walk_at "my tok") rfl rfl (by simp only [List.length_append, List.length_cons, List.length_nil]; omega) ?_
      intro t8 tk8 htk8
      walk_at "my go"
      refine ret _ _ _ _ F ⟨t8, congrArg (fun l => Value.str (S l) t8) ?_⟩
      rw [spelledL, if_neg hk0, he]
      have : ((k : Int) - 1).toNat = k - 1 := by omega
      rw [this]
      simp
end Mine
end
-- MPlain
section
open PySem PySem.W PyProof.Rows PySem.Calls
set_option maxRecDepth 100000
set_option Elab.async false
set_option linter.unusedVariables false
set_option maxHeartbeats 4000000
namespace Mine
local macro_rules | `(tactic| walk_at "my go") => `(tactic| repeat' (walk_at "my call"; walk_at "my base"; walk_at "my blt"; walk_at "my if"; walk_at "my one"))
theorem fillP : PySem.Challenge.rw_wn0108_01 = PySem.Challenge.rw_wn0108_01 ∧ Mine.hd.heap_39 = Mine.hd.heap_39 := by
  k_fill
  exact ⟨rfl, rfl⟩

theorem spelledL_len (hand c k : Nat) : (spelledL hand c k).length ≤ 4 * k + 7 := by
  unfold spelledL
  split
  · simp only [List.length_cons, List.length_nil]; omega
  · cases he : endo hand c with
    | none => simp only [List.length_cons, List.length_nil]; omega
    | some l =>
      have hll : l.length ≤ 6 := by
        have h1 := em_len hand c
        rw [em_endo, he] at h1
        simp only [List.length_cons] at h1; omega
      have : ((List.replicate (k - 1) [97, 109, 112, 59]).flatten).length = 4 * (k - 1) := by
        rw [List.length_flatten, List.map_replicate, List.sum_replicate_nat]
        simp only [List.length_cons, List.length_nil]; omega
      simp only [List.length_cons, List.length_append, this]; omega
noncomputable def closesL (hand d i : Nat) : List Nat := (List.range i).flatMap fun i => spelledL hand 62 (d - i)
noncomputable def coming : List (Nat × Nat) → Nat
  | [] => 0
  | (d, _) :: _ => d
noncomputable def plainL (hand : Nat) : List (Nat × Nat) → List Nat
  | [] => []
  | (d, c) :: r => spelledL hand 60 d ++ (spelledL hand c (d + 1) ++ (closesL hand d (d + 1 - coming r) ++ plainL hand r))
theorem closesL_succ (hand d i : Nat) : closesL hand d (i + 1) = closesL hand d i ++ spelledL hand 62 (d - i) := by
  simp [closesL, List.range_succ]
theorem closesL_len (hand d : Nat) (hd : d ≤ 3) : ∀ i, (closesL hand d i).length ≤ 20 * i
  | 0 => by simp [closesL]
  | i + 1 => by
    rw [closesL_succ, List.length_append]
    have := closesL_len hand d hd i
    have := spelledL_len hand 62 (d - i)
    omega
theorem plainL_len (hand : Nat) : ∀ t : List (Nat × Nat), (∀ nd ∈ t, nd.1 ≤ 3) → (plainL hand t).length ≤ 200 * t.length
  | [], _ => by simp [plainL]
  | (d, c) :: r, h => by
    have h0 : d ≤ 3 := h (d, c) (.head _)
    have h1 := plainL_len hand r fun nd hn => h nd (.tail _ hn)
    have h2 := spelledL_len hand 60 d
    have h3 := spelledL_len hand c (d + 1)
    have h4 := closesL_len hand d h0 (d + 1 - coming r)
    simp only [plainL, List.length_append, List.length_cons]
    omega

noncomputable abbrev mapOf {h₀ h : Heap} {L : Addr} {m : Str → Option Value} (_ : Fr h₀ L h m) : Str → Option Value := m

theorem plain_spec {prog : Program} {w : World} {A : Around} {s : Shared} (C : Cx w A s.heap) (R : Rm A 2) (ht : 1 ≤ s.toks) {a e : Addr} {tree : List (Nat × Nat)} {hand : Nat} (hlen : tree.length ≤ 6) (hd : ∀ nd ∈ tree, nd.1 ≤ 3)
    (hT : TreeAt s.heap a tree) (hE : EndsAt prog w s.heap e hand) :
    Gives prog w A 201 [.ref a, .ref e] s (fun h r => ∃ t, r = .str (S (plainL hand tree)) t) := by
  refine enter (binds := [("tree", .ref a), ("ends", .ref e)]) C (by k_is) (by k_is) (by have := R.d; omega) (BindsTo.of_eq rfl) (locs rfl) (by decide) rfl rfl rfl ?_
  intro g L h₁ base fr p loose mean mg mb Q hg F N B X T ret
  rw [← hg] at hT hE
  have hh0 := C.hh
  clear C
  walk_at "my go"
  obtain ⟨vs, hl, hn'⟩ := id hT
  have hlen' : vs.length = tree.length := hn'.length
  refine cutN (fun h' => ∃ m' t', Fr g L h' m' ∧ News g L h' [] ∧ m' "told" = some (.str (S (plainL hand tree)) t')) ?loop ?after
  case after =>
    rintro h' tk' htk' ⟨m', t', F', N', e⟩
    refine fun _ => ?_
    have F' := fr_say F' (x := "told") e
    dsimp only
    walk_at "my go"
    exact ret _ _ _ _ F' ⟨_, rfl⟩
  case loop =>
    refine forT (by walk_at "my tok") ?_
    walk_at "my go"
    (rename Fr _ _ _ _ => F)
    refine len_list (isList_keep hl F.keep) (by simp; omega) ?_
    walk_at "my go"
    (rename IsRange _ _ _ _ _ _ _ _ => hr)
    (rename Fr _ _ _ _ => F)
    (rename News _ _ _ _ => N)
    refine iterUp (tree.length) (fun i m news => news = [] ∧ m "tree" = some (.ref a) ∧ m "ends" = some (.ref e) ∧ ∃ x t', m "told" = some (.str (S x) t') ∧ x ++ plainL hand (tree.drop i) = plainL hand tree)
      hh0 rfl rfl hr (by decide) (by decide) (by rw [List.size_toArray]; omega) (by rw [List.size_toArray]; omega) (by rw [List.size_toArray]; omega) F N (by assumption) ⟨rfl, rfl, rfl, [], _, rfl, by simp⟩ ?turn ?done
    case done =>
      rintro h tk m₁ news₁ htk F N ⟨rfl, e1, e2, x, t', e4, hx⟩
      refine On.mk' htk ⟨m₁, t', F, N, ?_⟩
      rw [List.drop_length, plainL, List.append_nil] at hx
      rw [← hx]; exact e4
    case turn =>
      rintro i t m₁ news₁ I oI h tk hi ⟨rfl, e1, e2, x, t', e4, hx⟩ hI htk F N
      rw [Int.zero_add] at F
      obtain ⟨⟨d, c⟩, hnd⟩ : ∃ nd, tree[i] = nd := ⟨_, rfl⟩
      have hnd' : tree[i]? = some (d, c) := by rw [List.getElem?_eq_getElem hi, hnd]
      have hd3 : d ≤ 3 := hd (d, c) (hnd ▸ List.getElem_mem hi)
      have htree : tree.drop i = (d, c) :: tree.drop (i + 1) := by rw [← hnd]; exact List.drop_eq_getElem_cons hi
      have hpl := plainL_len hand tree hd
      have hxl : x.length ≤ 1200 := by
        have h1 := congrArg List.length hx
        rw [List.length_append] at h1
        omega
      have F := fr_say F (x := "tree") (v := .ref a) (by simp +decide [e1])
      have F := fr_say F (x := "ends") (v := .ref e) (by simp +decide [e2])
      have F := fr_say F (x := "told") (v := .str (S x) t') (by simp +decide [e4])
      clear hI
      walk_at "my go"
      refine itemN (hT.keep (Fr.keep (by assumption))) hnd' (by omega) ?_
      intro b u1 u2 hb
      walk_at "my go"
      refine node0 hb ?_
      walk_at "my go"
      (rename Fr _ _ _ _ => F1)
      (rename News _ _ _ _ => N1)
      rw [show Str.ofString "<" = S [60] from by decide +kernel]
      refine (spelled_spec (Cx.inner hh0 B F1 X T rfl rfl) (R.inner.le (by omega)) (by walk_at "my tok") (hE.keep F1.keep) (by omega)).useT (by walk_at "my tok") ?_
      rintro h2 tk2 r2 ht2 hk2 ⟨t2, rfl⟩
      have F2 := F1.after hk2
      have N2 := News.keep N1 hk2
      clear F1 N1
      have hs1 := spelledL_len hand 60 d
      have hs2 := spelledL_len hand c (d + 1)
      dsimp only
      refine addS ht2 rfl rfl (by omega) ?_
      intro t3 tk3 htk3
      walk_at "my go"
      refine itemN (hT.keep F2.keep) hnd' (by omega) ?_
      intro b4 u4 u5 hb4
      walk_at "my go"
      refine node1 hb4 ?_
      walk_at "my go"
      refine (spelled_spec (k := d + 1) (Cx.inner hh0 B F2 X T rfl rfl) (R.inner.le (by omega)) (by walk_at "my tok") (hE.keep F2.keep) (by omega)).useT (by walk_at "my tok") ?_
      rintro h5 tk5 r5 ht5 hk5 ⟨t5, rfl⟩
      have F5 := F2.after hk5
      have N5 := News.keep N2 hk5
      clear F2 N2
      dsimp only
      refine addS ht5 rfl rfl (by simp only [List.length_append]; omega) ?_
      intro t6 tk6 htk6
      walk_at "my go"
      (rename Fr _ _ _ _ => F7)
      (rename News _ _ _ _ => N7)
      refine cutN (fun h' => ∃ t, Fr g L h' (fun y => if y = "coming" then some (.int ((coming (tree.drop (i + 1)) : Nat) : Int) t) else mapOf F7 y) ∧ News g L h' [(I, oI)]) ?com ?rest
      case com =>
        walk1
        walk_at "my go"
        refine len_list (isList_keep hl (Fr.keep (by assumption))) (by simp; omega) ?_
        walk_at "my go"
        · (rename (_ : Int) < _ => hlt)
          (rename Fr _ _ _ _ => F9)
          have hlt' : i + 1 < tree.length := by
            rw [List.size_toArray] at hlt; omega
          obtain ⟨⟨d', c'⟩, hnd2⟩ : ∃ nd, tree[i + 1] = nd := ⟨_, rfl⟩
          have hnd2' : tree[i + 1]? = some (d', c') := by rw [List.getElem?_eq_getElem hlt', hnd2]
          refine itemN (k := i + 1) (hT.keep F9.keep) hnd2' (by omega) ?_
          intro b5 u5 u6 hb5
          walk_at "my go"
          refine node0 hb5 ?_
          walk_at "my go"
          (rename Fr _ _ _ _ => F10)
          (rename News _ _ _ _ => N10)
          have e9 : coming (tree.drop (i + 1)) = d' := by rw [List.drop_eq_getElem_cons hlt', hnd2]; rfl
          rw [e9]
          exact On.mk' (by omega) ⟨_, F10, N10⟩
        · (rename ¬ (_ : Int) < _ => hlt)
          (rename Fr _ _ _ _ => F10)
          (rename News _ _ _ _ => N10)
          have hlt' : ¬ i + 1 < tree.length := by
            rw [List.size_toArray] at hlt; omega
          have e9 : coming (tree.drop (i + 1)) = 0 := by rw [List.drop_of_length_le (by omega)]; rfl
          rw [e9]
          exact On.mk' (by omega) ⟨_, F10, N10⟩
      case rest =>
        rintro h8 tk8 htk8 ⟨t8, F8, N8⟩
        refine fun _ => ?_
        dsimp only [mapOf] at F8
        clear F7 N7
        dsimp only
        walk_at "my go"
        refine cutN (fun h' => ∃ m' t', Fr g L h' m' ∧ News g L h' [(I, oI)] ∧ m' "tree" = some (.ref a) ∧ m' "ends" = some (.ref e) ∧ m' "told" = some (.str (S (x ++ spelledL hand 60 d ++ spelledL hand c (d + 1) ++ closesL hand d (d + 1 - coming (tree.drop (i + 1))))) t')) ?inner ?behind
        case behind =>
          rintro h3 tk3 htk3 ⟨m3, t4, F3, N3, f1, f2, f3⟩
          refine fun _ => ?_
          have F3 := fr_say F3 (x := "told") f3
          have F3 := fr_say F3 (x := "tree") (v := .ref a) (by simp +decide [f1])
          have F3 := fr_say F3 (x := "ends") (v := .ref e) (by simp +decide [f2])
          dsimp only
          walk_at "my go"
          refine TurnE.next (news' := []) F3 N3 (fun _ hp => nomatch hp) ⟨rfl, rfl, rfl, _, _, rfl, ?_⟩
          rw [← hx, htree, plainL]
          simp only [List.append_assoc]
        case inner =>
          have hcm3 : coming (tree.drop (i + 1)) ≤ 3 := by
            cases hq : tree.drop (i + 1) with
            | nil => exact Nat.zero_le _
            | cons nd r => exact hd nd (List.mem_of_mem_drop (i := i + 1) (hq ▸ .head _))
          generalize hcm : coming (tree.drop (i + 1)) = cm at F8 hcm3
          refine forT (by walk_at "my tok") ?_
          walk_at "my go"
          (rename IsRange _ _ _ _ _ _ _ _ => hr2)
          (rename Fr _ _ _ _ => F9)
          (rename News _ _ _ _ => N9)
          refine iterDown (d + 1 - cm) (fun j m news => news = [(I, oI)] ∧ m "tree" = some (.ref a) ∧ m "ends" = some (.ref e) ∧ ∃ t', m "told" = some (.str (S (x ++ spelledL hand 60 d ++ spelledL hand c (d + 1) ++ closesL hand d j)) t'))
            hh0 rfl rfl hr2 (by omega) (by omega) (by omega) (by omega) (by omega) F9 N9 (by walk_at "my tok") ⟨rfl, rfl, rfl, t6, ?start⟩ ?turn2 ?done2
          case start =>
            rw [show closesL hand d 0 = [] from rfl, List.append_nil, List.append_assoc x]
            rfl
          case done2 =>
            rintro h tk m₁ news₁ htk F N ⟨rfl, e1, e2, t', e3⟩
            exact On.mk' htk ⟨m₁, t', F, N, e1, e2, e3⟩
          case turn2 =>
            rintro j tj m₁ news₁ I2 oI2 h tk hj ⟨rfl, e1, e2, t', e3⟩ hI2 htk F N
            have F := fr_say F (x := "told") (v := .str (S (x ++ spelledL hand 60 d ++ spelledL hand c (d + 1) ++ closesL hand d j)) t') (by simp +decide [e3])
            have F := fr_say F (x := "tree") (v := .ref a) (by simp +decide [e1])
            have F := fr_say F (x := "ends") (v := .ref e) (by simp +decide [e2])
            have hI3 : I ≠ I2 := hI2 (I, _) (.head _)
            walk_at "my go"
            (rename Fr _ _ _ _ => F1)
            (rename News _ _ _ _ => N1)
            rw [show Str.ofString ">" = S [62] from by decide +kernel]
            have edj : (d : Int) - (j : Int) = ((d - j : Nat) : Int) := by omega
            rw [edj]
            refine (spelled_spec (Cx.inner hh0 B F1 X T rfl rfl) (R.inner.le (by omega)) (by walk_at "my tok") (hE.keep F1.keep) (by omega)).useT (by walk_at "my tok") ?_
            rintro h2 tk2 r2 ht2 hk2 ⟨t2, rfl⟩
            have F2 := F1.after hk2
            have N2 := News.keep N1 hk2
            clear F1 N1
            have hs3 := spelledL_len hand 62 (d - j)
            have hs4 := closesL_len hand d hd3 j
            dsimp only
            refine addS ht2 rfl rfl (by simp only [List.length_append]; omega) ?_
            intro t3 tk3 htk3
            walk_at "my go"
            (rename Fr _ _ _ _ => F4)
            (rename News _ _ _ _ => N4)
            refine TurnE.next (news' := [(I, oI)]) F4 N4 ?_ ⟨rfl, rfl, rfl, t3, ?_⟩
            · intro p hp
              rcases List.mem_cons.mp hp with rfl | hp
              · exact hI3
              · cases hp
            · rw [closesL_succ, ← List.append_assoc]
              rfl
end Mine
end
-- MReplies
section
open PySem PySem.W PyProof.Rows PySem.Calls
set_option maxRecDepth 100000
set_option Elab.async false
set_option linter.unusedVariables false
set_option maxHeartbeats 4000000
namespace Mine
local macro_rules | `(tactic| walk_at "my go") => `(tactic| repeat' (walk_at "my call"; walk_at "my base"; walk_at "my blt"; walk_at "my if"; walk_at "my pow"; walk_at "my one"))
theorem fillR : PySem.Challenge.rw_wn0108_01 = PySem.Challenge.rw_wn0108_01 ∧ Mine.hd.heap_39 = Mine.hd.heap_39 := by
  k_fill
  exact ⟨rfl, rfl⟩

noncomputable def quotes (n : Nat) : List Nat := List.replicate n 34
noncomputable def closesQ (d i : Nat) : List Nat := (List.range i).flatMap fun i => quotes (2 ^ (d - i))
noncomputable def saidQ (d c : Nat) : List Nat := if c = 34 then quotes (2 ^ (d + 1)) else [c]
noncomputable def repliesL : List (Nat × Nat) → List Nat
  | [] => []
  | (d, c) :: r => [50, 53, 55, 32] ++ (quotes (2 ^ d) ++ (saidQ d c ++ (closesQ d (d + 1 - coming r) ++ repliesL r)))
noncomputable def lastL : List Nat := [32, 34, 50, 53, 54, 32, 34, 34, 32, 100, 111, 110, 101, 34]
theorem closesQ_succ (d i : Nat) : closesQ d (i + 1) = closesQ d i ++ quotes (2 ^ (d - i)) := by
  simp [closesQ, List.range_succ]
theorem two_pow_le {d : Nat} (hd : d ≤ 4) : 2 ^ d ≤ 16 := Nat.pow_le_pow_right (n := 2) (by decide) hd
theorem closesQ_len (d : Nat) (hd : d ≤ 3) : ∀ i, (closesQ d i).length ≤ 16 * i
  | 0 => by simp [closesQ]
  | i + 1 => by
    rw [closesQ_succ, List.length_append]
    have := closesQ_len d hd i
    have := two_pow_le (d := d - i) (by omega)
    simp only [quotes, List.length_replicate]
    omega
theorem saidQ_len (d c : Nat) (hd : d ≤ 3) : (saidQ d c).length ≤ 16 := by
  unfold saidQ quotes
  split
  · have := two_pow_le (d := d + 1) (by omega)
    rw [List.length_replicate]; omega
  · simp
theorem repliesL_len : ∀ t : List (Nat × Nat), (∀ nd ∈ t, nd.1 ≤ 3) → (repliesL t).length ≤ 200 * t.length
  | [], _ => by simp [repliesL]
  | (d, c) :: r, h => by
    have h0 : d ≤ 3 := h (d, c) (.head _)
    have h1 := repliesL_len r fun nd hn => h nd (.tail _ hn)
    have h2 := two_pow_le (d := d) (by omega)
    have h3 := saidQ_len d c h0
    have h4 := closesQ_len d h0 (d + 1 - coming r)
    simp only [repliesL, List.length_append, List.length_cons, quotes, List.length_replicate, List.length_nil]
    omega
theorem rep1 (n c : Nat) : (List.replicate n [c]).flatten = List.replicate n c := by
  induction n with
  | zero => rfl
  | succ n ih => rw [List.replicate_succ, List.flatten_cons, ih]; rfl

section
variable {prog : Program} {w : World} {A : Around} {E : Value → Shared → Prop} {s : Shared}
theorem pow2 {n : Int} {t u : Tok} {Q : Value → Shared → Prop} (k : Nat) (hn : n = (k : Int)) (hk : k ≤ 1000) (h : ∀ t' tk, 1 ≤ tk → Q (.int ((2 ^ k : Nat) : Int) t') { s with toks := tk }) :
    wpAny (model prog w) A (binaryOp .Pow (.int 2 t) (.int n u)) Q E s := by
  subst hn
  refine pow_int_small (by omega) (by omega) (by decide) ?_
  have e : (2 : Int) ^ ((k : Int)).toNat = ((2 ^ k : Nat) : Int) := by rw [Int.toNat_natCast, Int.natCast_pow]; rfl
  rw [e]
  exact h _ _ (by omega)
theorem mulQ {x : Str} {c k : Nat} {t u : Tok} {Q : Value → Shared → Prop} (ht : 1 ≤ s.toks) (hx : x = S [c]) (hk : k ≤ 100000)
    (h : ∀ t' tk, 1 ≤ tk → Q (.str (S (List.replicate k c)) t') { s with toks := tk }) : wpAny (model prog w) A (binaryOp .Mult (.str x t) (.int (k : Int) u)) Q E s := by
  refine mulS (a := [c]) k ht hx (by omega) (by omega) (by omega) (by simp only [List.length_cons, List.length_nil]; omega) ?_
  rw [rep1, Int.toNat_natCast]
  exact h
end

theorem replies_spec {prog : Program} {w : World} {A : Around} {s : Shared} (C : Cx w A s.heap) (R : Rm A 2) (ht : 1 ≤ s.toks) {a : Addr} {tree : List (Nat × Nat)} (hlen : tree.length ≤ 6) (hd : ∀ nd ∈ tree, nd.1 ≤ 3)
    (hT : TreeAt s.heap a tree) :
    Gives prog w A 208 [.ref a] s (fun h r => ∃ t, r = .str (S (repliesL tree ++ lastL)) t) := by
  refine enter (binds := [("tree", .ref a)]) C (by k_is) (by k_is) (by have := R.d; omega) (BindsTo.of_eq rfl) (locs rfl) (by decide) rfl rfl rfl ?_
  intro g L h₁ base fr p loose mean mg mb Q hg F N B X T ret
  rw [← hg] at hT
  have hh0 := C.hh
  clear C
  walk_at "my go"
  obtain ⟨vs, hl, hn'⟩ := id hT
  have hlen' : vs.length = tree.length := hn'.length
  refine cutN (fun h' => ∃ m' t', Fr g L h' m' ∧ News g L h' [] ∧ m' "told" = some (.str (S (repliesL tree)) t')) ?loop ?after
  case after =>
    rintro h' tk' htk' ⟨m', t', F', N', e⟩
    refine fun _ => ?_
    have F' := fr_say F' (x := "told") e
    dsimp only
    walk_at "my go"
    have hpl := repliesL_len tree hd
    refine addS (by walk_at "my tok") (b := lastL) rfl (by decide +kernel) (by have : lastL.length = 14 := rfl; omega) ?_
    intro t1 tk1 ht1
    walk_at "my go"
    exact ret _ _ _ _ (by assumption) ⟨_, rfl⟩
  case loop =>
    refine forT (by walk_at "my tok") ?_
    walk_at "my go"
    (rename Fr _ _ _ _ => F)
    refine len_list (isList_keep hl F.keep) (by simp; omega) ?_
    walk_at "my go"
    (rename IsRange _ _ _ _ _ _ _ _ => hr)
    (rename Fr _ _ _ _ => F)
    (rename News _ _ _ _ => N)
    refine iterUp (tree.length) (fun i m news => news = [] ∧ m "tree" = some (.ref a) ∧ ∃ x t', m "told" = some (.str (S x) t') ∧ x ++ repliesL (tree.drop i) = repliesL tree)
      hh0 rfl rfl hr (by decide) (by decide) (by rw [List.size_toArray]; omega) (by rw [List.size_toArray]; omega) (by rw [List.size_toArray]; omega) F N (by assumption) ⟨rfl, rfl, [], _, rfl, by simp⟩ ?turn ?done
    case done =>
      rintro h tk m₁ news₁ htk F N ⟨rfl, e1, x, t', e4, hx⟩
      refine On.mk' htk ⟨m₁, t', F, N, ?_⟩
      rw [List.drop_length, repliesL, List.append_nil] at hx
      rw [← hx]; exact e4
    case turn =>
      rintro i t m₁ news₁ I oI h tk hi ⟨rfl, e1, x, t', e4, hx⟩ hI htk F N
      rw [Int.zero_add] at F
      obtain ⟨⟨d, c⟩, hnd⟩ : ∃ nd, tree[i] = nd := ⟨_, rfl⟩
      have hnd' : tree[i]? = some (d, c) := by rw [List.getElem?_eq_getElem hi, hnd]
      have hd3 : d ≤ 3 := hd (d, c) (hnd ▸ List.getElem_mem hi)
      have htree : tree.drop i = (d, c) :: tree.drop (i + 1) := by rw [← hnd]; exact List.drop_eq_getElem_cons hi
      have hpl := repliesL_len tree hd
      have hxl : x.length ≤ 1200 := by
        have h1 := congrArg List.length hx
        rw [List.length_append] at h1
        omega
      have F := fr_say F (x := "tree") (v := .ref a) (by simp +decide [e1])
      have F := fr_say F (x := "told") (v := .str (S x) t') (by simp +decide [e4])
      clear hI
      walk_at "my go"
      refine itemN (hT.keep (Fr.keep (by assumption))) hnd' (by omega) ?_
      intro b u1 u2 hb
      walk_at "my go"
      (rename Fr _ _ _ _ => F1)
      (rename News _ _ _ _ => N1)
      refine unpackN_ F1 N1 hb hh0 (by rfl) (by rfl) ?_
      clear F1 N1
      intro h2 F2 N2
      walk_at "my go"
      refine addS (by walk_at "my tok") (b := [50, 53, 55, 32]) rfl (by decide +kernel) (by simp only [List.length_cons, List.length_nil]; omega) ?_
      intro t3 tk3 ht3
      have hp1 := two_pow_le (d := d) (by omega)
      walk_at "my go"
      refine pow2 d rfl (by omega) ?_
      intro t4 tk4 ht4
      walk_at "my go"
      refine mulQ (by walk_at "my tok") (c := 34) (by decide +kernel) (by omega) ?_
      intro t5 tk5 ht5
      walk_at "my go"
      refine addS (by walk_at "my tok") (a := x ++ [50, 53, 55, 32]) (b := quotes (2 ^ d)) rfl rfl (by simp only [quotes, List.length_append, List.length_replicate, List.length_cons, List.length_nil]; omega) ?_
      intro t6 tk6 ht6
      walk_at "my go"
      generalize hx2 : x ++ [50, 53, 55, 32] ++ quotes (2 ^ d) = x2 at *
      have hx2l : x2.length ≤ 1300 := by rw [← hx2]; simp only [quotes, List.length_append, List.length_replicate, List.length_cons, List.length_nil]; omega
      (rename Fr _ _ _ _ => F7)
      (rename News _ _ _ _ => N7)
      refine cutN (fun h' => ∃ t, Fr g L h' (fun y => if y = "told" then some (.str (S (x2 ++ saidQ d c)) t) else mapOf F7 y) ∧ News g L h' [(I, oI)]) ?said ?rest0
      case said =>
        walk1
        walk_at "my go"
        · refine pow2 (d + 1) (by rfl) (by omega) ?_
          intro t4 tk4 ht4
          have hp2 := two_pow_le (d := d + 1) (by omega)
          walk_at "my go"
          refine mulQ (by walk_at "my tok") rfl (by omega) ?_
          intro t5 tk5 ht5
          walk_at "my go"
          (rename (_ == _) = true => hq)
          have hc : c = 34 := by
            rw [show Str.ofString "\"" = S [34] from by decide +kernel, S_eqb] at hq
            simpa using hq
          refine addS (by walk_at "my tok") (b := saidQ d c) rfl (by rw [saidQ, if_pos hc]; show _ = S (quotes _); rw [hc]; rfl) (by have := saidQ_len d c hd3; omega) ?_
          intro t6 tk6 ht6
          walk_at "my go"
          (rename Fr _ _ _ _ => F8)
          (rename News _ _ _ _ => N8)
          exact On.mk' (by omega) ⟨_, F8, N8⟩
        · (rename (_ == _) = false => hq)
          have hc : ¬ c = 34 := by
            rw [show Str.ofString "\"" = S [34] from by decide +kernel, S_eqb] at hq
            simpa using hq
          refine addS (by walk_at "my tok") (b := saidQ d c) rfl (by rw [saidQ, if_neg hc]) (by have := saidQ_len d c hd3; omega) ?_
          intro t6 tk6 ht6
          walk_at "my go"
          (rename Fr _ _ _ _ => F8)
          (rename News _ _ _ _ => N8)
          exact On.mk' (by omega) ⟨_, F8, N8⟩
      case rest0 =>
      rintro h8 tk8 htk8 ⟨t8b, F8, N8⟩
      refine fun _ => ?_
      dsimp only [mapOf] at F8
      clear F7 N7
      have hsl := saidQ_len d c hd3
      dsimp only
      walk_at "my go"
      (rename Fr _ _ _ _ => F7)
      (rename News _ _ _ _ => N7)
      refine cutN (fun h' => ∃ t, Fr g L h' (fun y => if y = "coming" then some (.int ((coming (tree.drop (i + 1)) : Nat) : Int) t) else mapOf F7 y) ∧ News g L h' [(I, oI)]) ?com ?rest
      case com =>
        walk1
        walk_at "my go"
        refine len_list (isList_keep hl (Fr.keep (by assumption))) (by simp; omega) ?_
        walk_at "my go"
        · (rename (_ : Int) < _ => hlt)
          (rename Fr _ _ _ _ => F9)
          have hlt' : i + 1 < tree.length := by
            rw [List.size_toArray] at hlt; omega
          obtain ⟨⟨d', c'⟩, hnd2⟩ : ∃ nd, tree[i + 1] = nd := ⟨_, rfl⟩
          have hnd2' : tree[i + 1]? = some (d', c') := by rw [List.getElem?_eq_getElem hlt', hnd2]
          refine itemN (k := i + 1) (hT.keep F9.keep) hnd2' (by omega) ?_
          intro b5 u5 u6 hb5
          walk_at "my go"
          refine node0 hb5 ?_
          walk_at "my go"
          (rename Fr _ _ _ _ => F10)
          (rename News _ _ _ _ => N10)
          have e9 : coming (tree.drop (i + 1)) = d' := by rw [List.drop_eq_getElem_cons hlt', hnd2]; rfl
          rw [e9]
          exact On.mk' (by omega) ⟨_, F10, N10⟩
        · (rename ¬ (_ : Int) < _ => hlt)
          (rename Fr _ _ _ _ => F10)
          (rename News _ _ _ _ => N10)
          have hlt' : ¬ i + 1 < tree.length := by
            rw [List.size_toArray] at hlt; omega
          have e9 : coming (tree.drop (i + 1)) = 0 := by rw [List.drop_of_length_le (by omega)]; rfl
          rw [e9]
          exact On.mk' (by omega) ⟨_, F10, N10⟩
      case rest =>
        rintro h8 tk8 htk8 ⟨t8, F8, N8⟩
        refine fun _ => ?_
        dsimp only [mapOf] at F8
        clear F7 N7
        dsimp only
        walk_at "my go"
        refine cutN (fun h' => ∃ m' t', Fr g L h' m' ∧ News g L h' [(I, oI)] ∧ m' "tree" = some (.ref a) ∧ m' "told" = some (.str (S (x2 ++ saidQ d c ++ closesQ d (d + 1 - coming (tree.drop (i + 1))))) t')) ?inner ?behind
        case behind =>
          rintro h3 tk3 htk3 ⟨m3, t4, F3, N3, f1, f3⟩
          refine fun _ => ?_
          have F3 := fr_say F3 (x := "told") f3
          have F3 := fr_say F3 (x := "tree") (v := .ref a) (by simp +decide [f1])
          dsimp only
          walk_at "my go"
          refine TurnE.next (news' := []) F3 N3 (fun _ hp => nomatch hp) ⟨rfl, rfl, _, _, rfl, ?_⟩
          rw [← hx, htree, repliesL, ← hx2]
          simp only [List.append_assoc]
        case inner =>
          have hcm3 : coming (tree.drop (i + 1)) ≤ 3 := by
            cases hq : tree.drop (i + 1) with
            | nil => exact Nat.zero_le _
            | cons nd r => exact hd nd (List.mem_of_mem_drop (i := i + 1) (hq ▸ .head _))
          generalize hcm : coming (tree.drop (i + 1)) = cm at F8 hcm3
          refine forT (by walk_at "my tok") ?_
          walk_at "my go"
          (rename IsRange _ _ _ _ _ _ _ _ => hr2)
          (rename Fr _ _ _ _ => F9)
          (rename News _ _ _ _ => N9)
          refine iterDown (d + 1 - cm) (fun j m news => news = [(I, oI)] ∧ m "tree" = some (.ref a) ∧ ∃ t', m "told" = some (.str (S (x2 ++ saidQ d c ++ closesQ d j)) t'))
            hh0 rfl rfl hr2 (by omega) (by omega) (by omega) (by omega) (by omega) F9 N9 (by walk_at "my tok") ⟨rfl, rfl, t8b, ?start⟩ ?turn2 ?done2
          case start =>
            rw [show closesQ d 0 = [] from rfl, List.append_nil]
            rfl
          case done2 =>
            rintro h tk m₁ news₁ htk F N ⟨rfl, e1, t', e3⟩
            exact On.mk' htk ⟨m₁, t', F, N, e1, e3⟩
          case turn2 =>
            rintro j tj m₁ news₁ I2 oI2 h tk hj ⟨rfl, e1, t', e3⟩ hI2 htk F N
            have F := fr_say F (x := "told") (v := .str (S (x2 ++ saidQ d c ++ closesQ d j)) t') (by simp +decide [e3])
            have F := fr_say F (x := "tree") (v := .ref a) (by simp +decide [e1])
            have hI3 : I ≠ I2 := hI2 (I, _) (.head _)
            clear hI2
            walk_at "my go"
            have hs3 := two_pow_le (d := d - j) (by omega)
            have hs4 := closesQ_len d hd3 j
            refine pow2 (d - j) (by omega) (by omega) ?_
            intro t4 tk4 ht4
            walk_at "my go"
            refine mulQ (by walk_at "my tok") (c := 34) (by decide +kernel) (by omega) ?_
            intro t5 tk5 ht5
            walk_at "my go"
            refine addS ht5 (b := quotes (2 ^ (d - j))) rfl rfl (by simp only [quotes, List.length_append, List.length_replicate]; omega) ?_
            intro t3 tk3 htk3
            walk_at "my go"
            (rename Fr _ _ _ _ => F4)
            (rename News _ _ _ _ => N4)
            refine TurnE.next (news' := [(I, oI)]) F4 N4 ?_ ⟨rfl, rfl, t3, ?_⟩
            · intro p hp
              rcases List.mem_cons.mp hp with rfl | hp
              · exact hI3
              · cases hp
            · rw [closesQ_succ, ← List.append_assoc]
              rfl
end Mine
end
-- MColumn
section
open PySem PySem.W PyProof.Rows PySem.Calls
set_option maxRecDepth 100000
set_option Elab.async false
set_option linter.unusedVariables false
set_option maxHeartbeats 4000000
namespace Mine
local macro_rules | `(tactic| walk_at "my go") => `(tactic| repeat' (walk_at "my call"; walk_at "my base"; walk_at "my blt"; walk_at "my if"; walk_at "my pow"; walk_at "my one"))
theorem fillC : PySem.Challenge.rw_wn0108_01 = PySem.Challenge.rw_wn0108_01 ∧ Mine.hd.heap_39 = Mine.hd.heap_39 := by
  k_fill
  exact ⟨rfl, rfl⟩

noncomputable def columnStep (size col c : Nat) : Nat := if c = 32 then col + 1 else (col / size + 1) * size
noncomputable def columnL (size : Nat) (lead : List Nat) : Nat := lead.foldl (columnStep size) 0
theorem columnStep_le {size : Nat} (h : 0 < size) (col c : Nat) : columnStep size col c ≤ col + size := by
  unfold columnStep
  split
  · omega
  · have := Nat.div_mul_le_self col size
    rw [Nat.add_mul, Nat.one_mul]; omega
theorem columnL_le {size : Nat} (h : 0 < size) : ∀ (lead : List Nat) (col : Nat), lead.foldl (columnStep size) col ≤ col + size * lead.length
  | [], col => by simp
  | c :: r, col => by
    have h1 := columnL_le h r (columnStep size col c)
    have h2 := columnStep_le h col c
    rw [List.foldl_cons, List.length_cons, Nat.mul_succ]; omega

theorem some_int {n k : Int} {t : Tok} {v : Option Value} (e : v = some (.int n t)) (h : n = k) : ∃ t', v = some (.int k t') := ⟨t, h ▸ e⟩
theorem fdiv_nat (a b : Nat) : ((a : Int)).fdiv (b : Int) = ((a / b : Nat) : Int) := (Int.ofNat_fdiv a b).symm
theorem fmod_nat (a b : Nat) : ((a : Int)).fmod (b : Int) = ((a % b : Nat) : Int) := (Int.ofNat_fmod a b).symm

theorem column_spec {prog : Program} {w : World} {A : Around} {s : Shared} (C : Cx w A s.heap) (R : Rm A 1) (ht : 1 ≤ s.toks) {lead : List Nat} {size : Nat} {t1 t2 : Tok} (hlen : lead.length ≤ 100) (hs0 : 0 < size) (hs : size ≤ 100) :
    Gives prog w A 229 [.str (S lead) t1, .int (size : Int) t2] s (fun h r => ∃ t, r = .int ((columnL size lead : Nat) : Int) t) := by
  refine enter (binds := [("lead", .str (S lead) t1), ("size", .int (size : Int) t2)]) C (by k_is) (by k_is) (by have := R.d; omega) (BindsTo.of_eq rfl) (locs rfl) (by decide) rfl rfl rfl ?_
  intro g L h₁ base fr p loose mean mg mb Q hg F N B X T ret
  have hh0 := C.hh
  clear C
  walk_at "my go"
  refine cutN (fun h' => ∃ m' t', Fr g L h' m' ∧ News g L h' [] ∧ m' "column" = some (.int ((columnL size lead : Nat) : Int) t')) ?loop ?after
  case after =>
    rintro h' tk' htk' ⟨m', t', F', N', e⟩
    refine fun _ => ?_
    have F' := fr_say F' (x := "column") e
    dsimp only
    walk_at "my go"
    exact ret _ _ _ _ (by assumption) ⟨_, rfl⟩
  case loop =>
    refine forT (by walk_at "my tok") ?_
    walk_at "my go"
    (rename Fr _ _ _ _ => F)
    (rename News _ _ _ _ => N)
    refine iterStr (fun i m news => news = [] ∧ m "size" = some (.int (size : Int) t2) ∧ ∃ t', m "column" = some (.int (((lead.take i).foldl (columnStep size) 0 : Nat) : Int) t'))
      hh0 rfl rfl F N (by walk_at "my tok") ⟨rfl, rfl, _, rfl⟩ ?turn ?done
    case done =>
      rintro h tk m₁ news₁ htk F N ⟨rfl, e1, t', e4⟩
      refine On.mk' htk ⟨m₁, t', F, N, ?_⟩
      rw [S_size, List.take_length] at e4
      exact e4
    case turn =>
      rintro i c u m₁ news₁ I oI h tk hi ⟨rfl, e1, t', e4⟩ hI htk F N
      have hi' : lead[i]? = some c := by simpa [S] using hi
      have hnext : (lead.take (i + 1)).foldl (columnStep size) 0 = columnStep size ((lead.take i).foldl (columnStep size) 0) c := by
        rw [List.take_add_one, hi', List.foldl_append]; rfl
      have hcl := columnL_le hs0 (lead.take i) 0
      have hle : size * (lead.take i).length ≤ 100 * 100 := Nat.mul_le_mul hs (by rw [List.length_take]; omega)
      rw [hnext]
      generalize (lead.take i).foldl (columnStep size) 0 = col at e4 hcl
      have F := fr_say F (x := "size") (v := .int (size : Int) t2) (by simp +decide [e1])
      have F := fr_say F (x := "column") (v := .int (col : Int) t') (by simp +decide [e4])
      clear hI
      walk_at "my go"
      · (rename (_ == _) = true => hq)
        (rename Fr _ _ _ _ => F4)
        (rename News _ _ _ _ => N4)
        have hc : c = 32 := by
          rw [show Str.ofString " " = S [32] from by decide +kernel] at hq
          have hq' : (S [c] == S [32]) = true := hq
          rw [S_eqb] at hq'
          simpa using hq'
        refine TurnE.next (news' := []) F4 N4 (fun _ hp => nomatch hp) ⟨rfl, rfl, some_int rfl ?_⟩
        rw [columnStep, if_pos hc]; rfl
      · (rename (_ == _) = false => hq)
        (rename Fr _ _ _ _ => F4)
        (rename News _ _ _ _ => N4)
        have hc : ¬ c = 32 := by
          rw [show Str.ofString " " = S [32] from by decide +kernel] at hq
          have hq' : (S [c] == S [32]) = false := hq
          rw [S_eqb] at hq'
          simpa using hq'
        refine TurnE.next (news' := []) F4 N4 (fun _ hp => nomatch hp) ⟨rfl, rfl, some_int rfl ?_⟩
        rw [columnStep, if_neg hc, fdiv_nat]; rfl
end Mine
end
-- MTurned
section
open PySem PySem.W PyProof.Rows PySem.Calls
set_option maxRecDepth 100000
set_option Elab.async false
set_option linter.unusedVariables false
set_option maxHeartbeats 4000000
namespace Mine
local macro_rules | `(tactic| walk_at "my go") => `(tactic| repeat' (walk_at "my call"; walk_at "my base"; walk_at "my blt"; walk_at "my if"; walk_at "my pow"; walk_at "my one"))
theorem fillT : PySem.Challenge.rw_wn0108_01 = PySem.Challenge.rw_wn0108_01 ∧ Mine.hd.heap_39 = Mine.hd.heap_39 := by
  k_fill
  exact ⟨rfl, rfl⟩

/-- runs of blanks, each closed by a tab, and the last run -/
noncomputable def J (closed : List (List Nat)) (last : List Nat) : List Nat := closed.flatMap (· ++ [9]) ++ last
theorem join_J : ∀ (closed : List Str) (last : Str), Str.join (S [9]) (closed ++ [last]) = S (J (closed.map (·.cps.toList)) last.cps.toList)
  | [], last => by
    show last = S ([] ++ last.cps.toList)
    rw [List.nil_append, S_of]
  | a :: r, last => by
    have ih := join_J r last
    obtain ⟨b, q, e⟩ : ∃ b q, r ++ [last] = b :: q := by cases r <;> exact ⟨_, _, rfl⟩
    show Str.join (S [9]) (a :: (r ++ [last])) = _
    rw [e] at ih ⊢
    show a ++ S [9] ++ Str.join (S [9]) (b :: q) = _
    rw [ih, ← S_of a, S_add, S_add]
    apply congrArg
    simp [J, S_list]
theorem J_len (closed : List (List Nat)) (last : List Nat) : (J closed last).length = (closed.map List.length).sum + closed.length + last.length := by
  induction closed with
  | nil => simp [J]
  | cons a r ih =>
    have : (J (a :: r) last).length = a.length + 1 + (J r last).length := by
      show ((a :: r).flatMap (· ++ [9]) ++ last).length = _
      rw [List.flatMap_cons, List.append_assoc, List.length_append, List.length_append]; rfl
    rw [this, ih, List.map_cons, List.sum_cons, List.length_cons]; omega
theorem rot_perm {α : Type} (l : List α) (k : Nat) : (l.drop k ++ l.take k).Perm l := by
  have h : (l.drop k ++ l.take k).Perm (l.take k ++ l.drop k) := List.perm_append_comm
  rwa [List.take_append_drop] at h
theorem strsAre_map : ∀ l : List (Str × Tok), StrsAre (strValues l) (l.map (·.1))
  | [] => .nil
  | (a, t) :: r => .cons a t (strsAre_map r)

section
variable {prog : Program} {w : World} {A : Around} {E : Value → Shared → Prop} {s : Shared} {h₀ : Heap} {L : Addr} {m : Str → Option Value} {news : List (Addr × Obj)}
theorem splitR {x : Str} {t : Tok} {y : Str} {u : Tok} {Q : Value → Shared → Prop} (hF : Fr h₀ L s.heap m) (hN : News h₀ L s.heap news) (hy : (y.length == 0) = false)
    (h : ∀ D l h' k, l.map (·.1) = Txt.split x y → Fr h₀ L h' m → News h₀ L h' ((D, W.listOf (strValues l).toArray 0) :: news) → Q (.ref D) { s with heap := h', toks := k })
    (hsz : x.length + 2 ≤ sizeLine) :
    wpAny (model prog w) A (call (.builtin "str.split") [.str x t, .str y u]) Q E s := splitN1 hF hN hy (fun l h' k => h _ l h' k) hsz
theorem addL {l b : Addr} {vs ws : List Value} {Q : Value → Shared → Prop} (F : Fr h₀ L s.heap m) (N : News h₀ L s.heap news) (hl : s.heap.IsList l vs.toArray) (hb : s.heap.IsList b ws.toArray) (hsz : vs.length + ws.length ≤ sizeLine)
    (h : ∀ D h', Fr h₀ L h' m → News h₀ L h' ((D, W.listOf (vs ++ ws).toArray 0) :: news) → Q (.ref D) { s with heap := h' }) :
    wpAny (model prog w) A (binaryOp .Add (.ref l) (.ref b)) Q E s := add_lists F N hl hb (fun h' => h _ h') hsz
end

theorem turned_spec {prog : Program} {w : World} {A : Around} {s : Shared} (C : Cx w A s.heap) (R : Rm A 1) (ht : 1 ≤ s.toks) {lead : List Nat} {turn : Nat} {t1 t2 : Tok} (hlen : lead.length ≤ 1000) (htn : turn ≤ 10000000) :
    Gives prog w A 222 [.str (S lead) t1, .int (turn : Int) t2] s (fun h r => ∃ t closed closed' last, r = .str (S (J closed' last)) t ∧ lead = J closed last ∧ closed'.Perm closed ∧ (∀ r ∈ closed, 9 ∉ r) ∧ 9 ∉ last) := by
  refine enter (binds := [("lead", .str (S lead) t1), ("turn", .int (turn : Int) t2)]) C (by k_is) (by k_is) (by have := R.d; omega) (BindsTo.of_eq rfl) (locs rfl) (by decide) rfl rfl rfl ?_
  intro g L h₁ base fr p loose mean mg mb Q hg F N B X T ret
  have hh0 := C.hh
  clear C
  walk_at "my go"
  (rename Fr _ _ _ _ => F)
  (rename News _ _ _ _ => N)
  rw [show Str.ofString "\t" = S [9] from by decide +kernel]
  refine splitR F N (by rw [S_len]; rfl) ?_ (by rw [S_len, sizeLine_eq]; omega)
  clear F N
  intro D l h2 tk2 hl2 F N
  have hpos : 1 ≤ l.length := len_of_split hl2
  obtain ⟨lc, ⟨la, ta⟩, rfl⟩ : ∃ lc p, l = lc ++ [p] := ⟨l.dropLast, l.getLast (by intro e; rw [e] at hpos; exact absurd hpos (by decide)), (List.dropLast_concat_getLast _).symm⟩
  have hj : S lead = Str.join (S [9]) (lc.map (·.1) ++ [la]) := by
    rw [← StrLaws.join_split (S lead) (S [9]), ← hl2, List.map_append]; rfl
  rw [join_J] at hj
  have hlead := S_inj.mp hj
  have hfree : ∀ p ∈ lc.map (·.1) ++ [la], 9 ∉ p.cps.toList := by
    have := StrLaws.split_free (S lead) 9
    intro p hp
    refine this p ?_
    have e : Txt.split (S lead) ⟨#[9]⟩ = lc.map (·.1) ++ [la] := by rw [show (⟨#[9]⟩ : Str) = S [9] from rfl, ← hl2, List.map_append]; rfl
    rw [e]; exact hp
  have hfc : ∀ r ∈ (lc.map (·.1)).map (·.cps.toList), 9 ∉ r := by
    intro r hr
    obtain ⟨p, hp, rfl⟩ := List.mem_map.mp hr
    exact hfree p (List.mem_append_left _ hp)
  have hfl : 9 ∉ la.cps.toList := hfree la (List.mem_append_right _ (.head _))
  have hJl := J_len ((lc.map (·.1)).map (·.cps.toList)) la.cps.toList
  rw [← hlead] at hJl
  simp only [List.length_map] at hJl
  rw [show strValues (lc ++ [(la, ta)]) = strValues lc ++ [Value.str la ta] from by simp [strValues]] at N
  have hvl : (strValues lc).length = lc.length := by simp [strValues]
  walk_at "my go"
  (rename Fr _ _ _ _ => F1)
  (rename News _ _ _ _ => N1)
  refine kmk_slice_lit (zs := strValues lc) F1 N1 (News.isList N1 (.head _)) .none (.int _ _) (by rw [pick_init]; simp) ?_ (by with_unfolding_all rfl) (by intro _; with_unfolding_all rfl) (by rw [List.size_toArray, sizeLine_eq, List.length_append, hvl, List.length_cons, List.length_nil]; omega)
  clear F1 N1
  intro D2 h3 F3 N3 hlt3
  walk_at "my go"
  refine len_list (News.isList (by assumption) (.head _)) (by rw [List.size_toArray]; omega) ?_
  walk_at "my go"
  · (rename (_ : Int) = 0 => h0)
    have h0' : lc = [] := by
      rw [List.size_toArray, hvl] at h0
      exact List.length_eq_zero_iff.mp (by omega)
    (rename Fr _ _ _ _ => F4)
    refine ret _ _ _ _ F4 ⟨t1, _, _, _, ?_, hlead, List.Perm.refl _, hfc, hfl⟩
    rw [← hlead]
  · (rename (_ : Int) ≠ 0 => h0)
    rw [List.size_toArray, hvl] at h0
    refine len_list (News.isList (by assumption) (.head _)) (by rw [List.size_toArray]; omega) ?_
    rw [List.size_toArray, hvl]
    walk_at "my go"
    (rename Fr _ _ _ _ => F4)
    (rename News _ _ _ _ => N4)
    rw [fmod_nat] at F4 ⊢
    generalize turn % lc.length = k at F4 ⊢
    refine kmk_slice_lit (zs := (strValues lc).drop k) F4 N4 (News.isList N4 (.head _)) (.int _ _) .none (by rw [pick_from _ _ (by omega), Int.toNat_natCast]) ?_ (by with_unfolding_all rfl) (by intro _; with_unfolding_all rfl) (by rw [List.size_toArray, sizeLine_eq, hvl]; omega)
    intro D3 h5 F5 N5 hlt5
    clear F4 N4
    walk_at "my go"
    (rename Fr _ _ _ _ => F6)
    (rename News _ _ _ _ => N6)
    refine kmk_slice_lit (zs := (strValues lc).take k) F6 N6 (News.isList N6 (.tail _ (.head _))) .none (.int _ _) (by rw [pick_upto _ _ (by omega), Int.toNat_natCast]) ?_ (by with_unfolding_all rfl) (by intro _; with_unfolding_all rfl) (by rw [List.size_toArray, sizeLine_eq, hvl]; omega)
    intro D4 h7 F7 N7 hlt7
    clear F6 N6
    refine addL F7 N7 (News.isList N7 (.tail _ (.head _))) (News.isList N7 (.head _)) (by rw [List.length_drop, List.length_take, hvl, sizeLine_eq]; omega) ?_
    intro D8 h8 F8 N8
    clear F7 N7
    walk_at "my go"
    (rename Fr _ _ _ _ => F9)
    (rename News _ _ _ _ => N9)
    refine kmk_slice_lit (zs := [Value.str la ta]) F9 N9 (News.isList N9 (.tail _ (.tail _ (.tail _ (.tail _ (.head _)))))) (.int _ _) .none (by rw [pick_last]; simp) ?_ (by with_unfolding_all rfl) (by intro _; with_unfolding_all rfl) (by rw [List.size_toArray, sizeLine_eq, List.length_append, hvl, List.length_cons, List.length_nil]; omega)
    intro D10 h10 F10 N10 hlt10
    clear F9 N9
    refine addL F10 N10 (News.isList N10 (.tail _ (.head _))) (News.isList N10 (.head _)) (by rw [List.length_append, List.length_drop, List.length_take, hvl, sizeLine_eq]; simp only [List.length_cons, List.length_nil]; omega) ?_
    intro D11 h11 F11 N11
    clear F10 N10
    walk_at "my go"
    have hlp : (lc.drop k ++ lc.take k).Perm lc := rot_perm lc k
    have hsum := ((hlp.map (·.1)).map Str.length).sum_nat
    have hval : (strValues lc).drop k ++ (strValues lc).take k ++ [Value.str la ta] = strValues ((lc.drop k ++ lc.take k) ++ [(la, ta)]) := by simp [strValues]
    refine join_list (ys := (lc.drop k ++ lc.take k).map (·.1) ++ [la]) (News.isList (by assumption) (.head _)) (by rw [hval, show (lc.drop k ++ lc.take k).map (·.1) ++ [la] = ((lc.drop k ++ lc.take k) ++ [(la, ta)]).map (·.1) from by simp]; exact strsAre_map _) ?_ ?_
    · have e1 : ((List.map Str.length (List.map (fun x => x.fst) lc))).sum = (List.map List.length (List.map (fun x => x.cps.toList) (List.map (fun x => x.fst) lc))).sum := by
        rw [List.map_map, List.map_map, List.map_map]
        congr 1
      have e2 : la.length = la.cps.toList.length := by simp [Str.length]
      rw [List.map_append, List.sum_append_nat, hsum, e1, S_len]
      simp only [List.map_cons, List.map_nil, List.sum_cons, List.sum_nil, List.length_append, List.length_map, List.length_cons, List.length_nil, List.length_drop, List.length_take]
      omega
    · intro t12 k12
      rw [show Txt.join (S [9]) ((lc.drop k ++ lc.take k).map (·.1) ++ [la]) = S (J (((lc.drop k ++ lc.take k).map (·.1)).map (·.cps.toList)) la.cps.toList) from ?_]
      · walk_at "my go"
        refine ret _ _ _ _ F11 ⟨t12, _, _, _, rfl, hlead, ?_, hfc, hfl⟩
        exact (hlp.map _).map _
      · rw [← join_J]
        exact StrLaws.glued_eq_join _ _
end Mine
end
-- MParse
section
open PySem PySem.W PyProof.Rows PySem.Calls
set_option maxRecDepth 100000
set_option Elab.async false
set_option linter.unusedVariables false
set_option maxHeartbeats 4000000
namespace Mine
local macro_rules | `(tactic| walk_at "my go") => `(tactic| repeat' (walk_at "my call"; walk_at "my base"; walk_at "my if"; walk_at "my pow"; walk_at "my while"; walk_at "my len"; walk_at "my one"))
theorem fillQ : PySem.Challenge.rw_wn0108_01 = PySem.Challenge.rw_wn0108_01 ∧ Mine.hd.heap_39 = Mine.hd.heap_39 := by
  k_fill
  exact ⟨rfl, rfl⟩

/-- what stands up to the single quotation mark -/
noncomputable def unq : List Nat → List Nat
  | [] => []
  | [c] => if c = 34 then [] else [c]
  | c :: k :: r => if c = 34 then (if k = 34 then 34 :: unq r else []) else c :: unq (k :: r)
noncomputable def parseL (l : List Nat) : Option (List Nat) := if l.take 3 = [50, 53, 55] then (if (l.take 5).drop 3 = [32, 34] then some (unq (l.drop 5)) else some []) else none

section
variable {prog : Program} {w : World} {A : Around} {E : Value → Shared → Prop} {s : Shared} {h₀ : Heap} {L : Addr} {m : Str → Option Value} {news : List (Addr × Obj)} {value slice : Expr}
theorem sliceTo {x : Str} {l : List Nat} {t : Tok} {b : Nat} {n : Int} {u : Tok} {Q : Value → Shared → Prop} (hx : x = S l) (hn : n = (b : Int)) (ht : 1 ≤ s.toks) (hF : Fr h₀ L s.heap m) (hN : News h₀ L s.heap news) (hsz : l.length ≤ 16777216)
    (h : ∀ h' t' k, 1 ≤ k → Fr h₀ L h' m → News h₀ L h' news → Q (.str (S (l.take b)) t') { s with heap := h', toks := k })
    (hs : subscripted slice false (.str x t) (.ref s.heap.objs.size) = operate [.ref s.heap.objs.size, .str x t] (getItem (.str x t) (.ref s.heap.objs.size)) := by with_unfolding_all rfl)
    (hg : ∀ r, letTemporaryGo value (.str x t) r = pure () := by intro _; with_unfolding_all rfl) :
    wpAny (model prog w) A (subscriptTail value slice (.str x t) (.ref s.heap.objs.size)) Q E { s with heap := s.heap.push { cls := .type "slice", data := .fields #[.none, .int n u, .none] } } := by
  subst hx hn
  refine wpAny_with_toks (n := 1) ht ?_
  refine slice_strN_ns hF hN ?_ hs hg (by rw [S_len, sizeLine_eq]; exact hsz)
  rw [slice_to]
  exact fun h' t' k F N hk => h h' t' k hk F N
theorem sliceFrom {x : Str} {l : List Nat} {t : Tok} {b : Nat} {n : Int} {u : Tok} {Q : Value → Shared → Prop} (hx : x = S l) (hn : n = (b : Int)) (ht : 1 ≤ s.toks) (hF : Fr h₀ L s.heap m) (hN : News h₀ L s.heap news) (hsz : l.length ≤ 16777216)
    (h : ∀ h' t' k, 1 ≤ k → Fr h₀ L h' m → News h₀ L h' news → Q (.str (S (l.drop b)) t') { s with heap := h', toks := k })
    (hs : subscripted slice false (.str x t) (.ref s.heap.objs.size) = operate [.ref s.heap.objs.size, .str x t] (getItem (.str x t) (.ref s.heap.objs.size)) := by with_unfolding_all rfl)
    (hg : ∀ r, letTemporaryGo value (.str x t) r = pure () := by intro _; with_unfolding_all rfl) :
    wpAny (model prog w) A (subscriptTail value slice (.str x t) (.ref s.heap.objs.size)) Q E { s with heap := s.heap.push { cls := .type "slice", data := .fields #[.int n u, .none, .none] } } := by
  subst hx hn
  refine wpAny_with_toks (n := 1) ht ?_
  refine slice_strN_sn hF hN ?_ hs hg (by rw [S_len, sizeLine_eq]; exact hsz)
  rw [slice_from]
  exact fun h' t' k F N hk => h h' t' k hk F N
theorem sliceIn {x : Str} {l : List Nat} {t : Tok} {a b : Nat} {k n : Int} {u u2 : Tok} {Q : Value → Shared → Prop} (hx : x = S l) (hk : k = (a : Int)) (hn : n = (b : Int)) (ht : 1 ≤ s.toks) (hF : Fr h₀ L s.heap m) (hN : News h₀ L s.heap news) (hsz : l.length ≤ 16777216)
    (h : ∀ h' t' k, 1 ≤ k → Fr h₀ L h' m → News h₀ L h' news → Q (.str (S ((l.take b).drop a)) t') { s with heap := h', toks := k })
    (hs : subscripted slice false (.str x t) (.ref s.heap.objs.size) = operate [.ref s.heap.objs.size, .str x t] (getItem (.str x t) (.ref s.heap.objs.size)) := by with_unfolding_all rfl)
    (hg : ∀ r, letTemporaryGo value (.str x t) r = pure () := by intro _; with_unfolding_all rfl) :
    wpAny (model prog w) A (subscriptTail value slice (.str x t) (.ref s.heap.objs.size)) Q E { s with heap := s.heap.push { cls := .type "slice", data := .fields #[.int k u, .int n u2, .none] } } := by
  subst hx hk hn
  refine wpAny_with_toks (n := 1) ht ?_
  refine slice_strN_ss hF hN ?_ hs hg (by rw [S_len, sizeLine_eq]; exact hsz)
  rw [slice_nat]
  exact fun h' t' k F N hk => h h' t' k hk F N
theorem lenS {x : Str} {l : List Nat} {t : Tok} {Q : Value → Shared → Prop} (hx : x = S l) (hsz : l.length ≤ 16777216) (h : ∀ t' tk, 1 ≤ tk → Q (.int (l.length : Int) t') { s with toks := tk }) : wpAny (model prog w) A (call (.builtin "len") [.str x t]) Q E s := by
  subst hx
  refine len_str (by rw [S_len]; omega) ?_
  rw [S_len]
  exact h _ _ (by omega)
theorem charS {x : Str} {l : List Nat} {t : Tok} {i c : Nat} {k : Int} {u : Tok} {Q : Value → Shared → Prop} (hx : x = S l) (hk : k = (i : Int)) (hi : l[i]? = some c) (hsz : l.length ≤ 16777216) (ht : 1 ≤ s.toks) (h : ∀ t' tk, 1 ≤ tk → Q (.str (S [c]) t') { s with toks := tk })
    (hs : subscripted slice false (.str x t) (.int k u) = operate [.str x t, .int k u] (getItem (.str x t) (.int k u)) := by with_unfolding_all rfl)
    (hg : ∀ r, letTemporaryGo value (.str x t) r = pure () := by intro _; with_unfolding_all rfl) :
    wpAny (model prog w) A (subscriptTail value slice (.str x t) (.int k u)) Q E s := by
  subst hx hk
  obtain ⟨hlt, rfl⟩ := List.getElem?_eq_some_iff.mp hi
  refine item_str ?_ (by rw [S_len]; omega) (by rw [S_len]; omega) ?_ hs hg
  · unfold fitsSsize
    rw [decide_eq_false (by omega), decide_eq_false (by omega)]
    rfl
  · intro _
    rw [item_S l i hlt]
    exact h _ _ (by omega)
end
theorem some_intE {n k : Int} {t : Tok} {v : Option Value} (e : v = some (.int n t)) (h : n = k) : v = some (.int k t) := h ▸ e
theorem unq_nil {l : List Nat} (h : l[0]? = none) : unq l = [] := by
  cases l with
  | nil => rfl
  | cons a r => simp at h
theorem unq_other {l : List Nat} {c : Nat} (h : l[0]? = some c) (hc : c ≠ 34) : unq l = c :: unq (l.drop 1) := by
  match l, h with
  | [a], h =>
    obtain rfl : a = c := by simpa using h
    rw [unq, if_neg hc]; rfl
  | a :: b :: r, h =>
    obtain rfl : a = c := by simpa using h
    rw [unq, if_neg hc]; rfl
theorem unq_end {l : List Nat} (h : l[0]? = some 34) (hc : l[1]? ≠ some 34) : unq l = [] := by
  match l, h, hc with
  | [a], h, _ =>
    obtain rfl : a = 34 := by simpa using h
    rw [unq, if_pos rfl]
  | a :: b :: r, h, hc =>
    obtain rfl : a = 34 := by simpa using h
    have hb : ¬ b = 34 := by simpa using hc
    rw [unq, if_pos rfl, if_neg hb]
theorem unq_two {l : List Nat} (h : l[0]? = some 34) (hc : l[1]? = some 34) : unq l = 34 :: unq (l.drop 2) := by
  match l, h, hc with
  | a :: b :: r, h, hc =>
    obtain rfl : a = 34 := by simpa using h
    obtain rfl : b = 34 := by simpa using hc
    rw [unq, if_pos rfl, if_pos rfl]; rfl

theorem parse_spec {prog : Program} {w : World} {A : Around} {s : Shared} (C : Cx w A s.heap) (R : Rm A 1) (ht : 1 ≤ s.toks) {x : List Nat} {y : List Nat} {t1 : Tok} (hlen : x.length ≤ 10000) (hp : parseL x = some y) :
    Gives prog w A 53 [.str (S x) t1] s (fun h r => ∃ t, r = .str (S y) t) := by
  refine enter (binds := [("resp", .str (S x) t1)]) C (by k_is) (by k_is) (by have := R.d; omega) (BindsTo.of_eq rfl) (locs rfl) (by decide) rfl rfl rfl ?_
  intro g L h₁ base fr p loose mean mg mb Q hg F N B X T ret
  have hh0 := C.hh
  clear C
  walk_at "my go"
  refine sliceTo rfl (b := 3) rfl (by walk_at "my tok") F N (by omega) ?_
  clear F N
  intro h2 t2 tk2 ht2 F N
  rw [show Str.ofString "257" = S [50, 53, 55] from by decide +kernel, show Str.ofString " \"" = S [32, 34] from by decide +kernel]
  walk_at "my go"
  · (rename (_ != _) = true => hq)
    have hq' : ¬ x.take 3 = [50, 53, 55] := by
      rw [bne, S_eqb] at hq
      simpa using hq
    rw [parseL, if_neg hq'] at hp
    cases hp
  · (rename (_ != _) = false => hq)
    have h257 : x.take 3 = [50, 53, 55] := by
      rw [bne, S_eqb] at hq
      simpa using hq
    rw [parseL, if_pos h257] at hp
    refine sliceIn rfl (a := 3) (b := 5) rfl rfl (by walk_at "my tok") F N (by omega) ?_
    clear F N
    intro h3 t3 tk3 ht3 F N
    walk_at "my go"
    · (rename (_ != _) = true => hq2)
      have hq' : ¬ (x.take 5).drop 3 = [32, 34] := by
        rw [bne, S_eqb] at hq2
        simpa using hq2
      rw [if_neg hq'] at hp
      cases hp
      exact ret _ _ _ _ F ⟨_, congrArg (fun z => Value.str z _) (show Str.ofString "" = S [] from by decide +kernel)⟩
    · (rename (_ != _) = false => hq2)
      have hq' : (x.take 5).drop 3 = [32, 34] := by
        rw [bne, S_eqb] at hq2
        simpa using hq2
      rw [if_pos hq'] at hp
      cases hp
      refine lenS rfl (by omega) ?_
      intro t5 tk5 ht5
      walk_at "my go"
      refine cutN (fun h' => ∃ m' t', Fr g L h' m' ∧ News g L h' [] ∧ m' "dirname" = some (.str (S (unq (x.drop 5))) t')) ?loop ?after
      case after =>
        rintro h' tk' htk' ⟨m', t', F', N', e⟩
        refine fun _ => ?_
        have F' := fr_say F' (x := "dirname") e
        dsimp only
        walk_at "my go"
        exact ret _ _ _ _ (by assumption) ⟨_, rfl⟩
      case loop =>
        (rename Fr _ _ _ _ => F4)
        (rename News _ _ _ _ => N4)
        refine whileR (fun n m news => news = [] ∧ ∃ (i : Nat) (t2 t3 t4 : Tok) (z : List Nat), m "resp" = some (.str (S x) t1) ∧ m "n" = some (.int (x.length : Int) t2) ∧ m "i" = some (.int (i : Int) t3) ∧ m "dirname" = some (.str (S z) t4) ∧
          z.length ≤ i ∧ i + n = x.length + 5 ∧ z ++ unq (x.drop i) = unq (x.drop 5)) (x.length) F4 N4 (by walk_at "my tok") ⟨rfl, 5, _, _, _, [], rfl, rfl, rfl, congrArg (fun z => some (Value.str z _)) (show Str.ofString "" = S [] from by decide +kernel), by simp, by omega, by simp⟩ ?turn
        clear F4 N4
        rintro n m₁ news₁ h tk htk F N ⟨rfl, i, t2, t3, t4, z, e1, e2, e3, e4, hz, hin, hu⟩
        have F := fr_say F (x := "resp") (v := .str (S x) t1) (by simp +decide [e1])
        have F := fr_say F (x := "n") (v := .int (x.length : Int) t2) (by simp +decide [e2])
        have F := fr_say F (x := "i") (v := .int (i : Int) t3) (by simp +decide [e3])
        have F := fr_say F (x := "dirname") (v := .str (S z) t4) (by simp +decide [e4])
        have eq34 : Str.ofString "\"" = S [34] := by decide +kernel
        walk_at "my go"
        · (rename (_ : Int) < _ => hlt)
          have hlt' : i < x.length := by omega
          have hc : x[i]? = some x[i] := List.getElem?_eq_getElem hlt'
          have hc0 : (x.drop i)[0]? = some x[i] := by rw [List.getElem?_drop]; exact hc
          generalize x[i] = c at hc hc0
          refine charS rfl rfl hc (by omega) (by walk_at "my tok") ?_
          intro t6 tk6 ht6
          walk_at "my go"
          · (rename (_ == _) = true => hq3)
            (rename (_ : Int) ≤ _ => hge)
            (rename Fr _ _ _ _ => F5)
            (rename News _ _ _ _ => N5)
            have hc34 : c = 34 := by
              rw [eq34, S_eqb] at hq3
              simpa using hq3
            subst hc34
            refine On.mk' (by walk_at "my tok") ⟨_, t4, F5, N5, ?_⟩
            rw [unq_end hc0 (by rw [List.getElem?_drop, List.getElem?_eq_none (by omega)]; simp), List.append_nil] at hu
            rw [← hu]; rfl
          · (rename (_ == _) = true => hq3)
            (rename ¬ (_ : Int) ≤ _ => hge)
            have hc34 : c = 34 := by
              rw [eq34, S_eqb] at hq3
              simpa using hq3
            subst hc34
            have hlt2 : i + 1 < x.length := by omega
            have hk : x[i + 1]? = some x[i + 1] := List.getElem?_eq_getElem hlt2
            have hk0 : (x.drop i)[1]? = some x[i + 1] := by rw [List.getElem?_drop]; exact hk
            generalize x[i + 1] = k at hk hk0
            refine charS rfl (i := i + 1) (by omega) hk (by omega) (by walk_at "my tok") ?_
            intro t7 tk7 ht7
            walk_at "my go"
            · (rename (_ != _) = true => hq4)
              have hk34 : k ≠ 34 := by
                rw [eq34, bne, S_eqb] at hq4
                simpa using hq4
              (rename Fr _ _ _ _ => F5)
              (rename News _ _ _ _ => N5)
              refine On.mk' (by walk_at "my tok") ⟨_, t4, F5, N5, ?_⟩
              rw [unq_end hc0 (by rw [hk0]; simpa using hk34), List.append_nil] at hu
              rw [← hu]; rfl
            · (rename (_ != _) = false => hq4)
              have hk34 : k = 34 := by
                rw [eq34, bne, S_eqb] at hq4
                simpa using hq4
              subst hk34
              refine addS (by walk_at "my tok") rfl rfl (by simp only [List.length_cons, List.length_nil]; omega) ?_
              intro t8 tk8 ht8
              walk_at "my go"
              (rename Fr _ _ _ _ => F5)
              (rename News _ _ _ _ => N5)
              refine ⟨_, _, _, _, n - 2, rfl, F5, N5, by omega, rfl, i + 2, t2, _, t8, z ++ [34], rfl, rfl, some_intE rfl (by omega), rfl, ?_, by omega, ?_⟩
              · rw [List.length_append]; simp only [List.length_cons, List.length_nil]; omega
              · rw [← hu, unq_two hc0 hk0, List.drop_drop, List.append_assoc]; rfl
          · (rename (_ == _) = false => hq3)
            have hc34 : c ≠ 34 := by
              rw [eq34, S_eqb] at hq3
              simpa using hq3
            refine addS (by walk_at "my tok") rfl rfl (by simp only [List.length_cons, List.length_nil]; omega) ?_
            intro t8 tk8 ht8
            walk_at "my go"
            (rename Fr _ _ _ _ => F5)
            (rename News _ _ _ _ => N5)
            refine ⟨_, _, _, _, n - 1, rfl, F5, N5, by omega, rfl, i + 1, t2, _, t8, z ++ [c], rfl, rfl, some_intE rfl (by omega), rfl, ?_, by omega, ?_⟩
            · rw [List.length_append]; simp only [List.length_cons, List.length_nil]; omega
            · rw [← hu, unq_other hc0 hc34, List.drop_drop, List.append_assoc]; rfl
        · (rename ¬ (_ : Int) < _ => hlt)
          refine On.mk' (by walk_at "my tok") ⟨_, t4, F, N, ?_⟩
          have : x.drop i = [] := List.drop_of_length_le (by omega)
          rw [this, unq, List.append_nil] at hu
          rw [← hu]; rfl
end Mine
end
-- MRaise
section
open PySem PySem.W PyProof.Rows PySem.Calls
set_option maxRecDepth 100000
set_option Elab.async false
set_option linter.unusedVariables false
set_option maxHeartbeats 4000000
namespace Mine
local macro_rules | `(tactic| walk_at "my go") => `(tactic| repeat' (walk_at "my call"; walk_at "my base"; walk_at "my if"; walk_at "my pow"; walk_at "my while"; walk_at "my len"; walk_at "my leave"; walk_at "my one"))
theorem fillX : PySem.Challenge.rw_wn0108_01 = PySem.Challenge.rw_wn0108_01 ∧ Mine.hd.heap_39 = Mine.hd.heap_39 := by
  k_fill
  exact ⟨rfl, rfl⟩

section
variable {prog : Program} {w : World} {A : Around} {s : Shared}
/-- as enter, for a call that raises -/
theorem enterR {name qual : Str} {params : Arguments} {body : List Stmt} {scope : Scope} {dV kV doc pm cdv ct oc : Value} {an od : Option Addr} {osl : Array (Option Value)} {f : Addr} {args : List Value} {binds : List (Str × Value)}
    {E : Value → Shared → Prop} (X : (hd.heap_39 w.params).In s.heap) {p : Program} {loose : List Str} {mean : ExcName → Option Value} {mg mb : Str → Option Value} (T : Top p loose mean mg mb s.heap)
    (ho : (hd.heap_39 w.params).lookup f = some ⟨oc, od, .func (fnOf name qual params body scope dV kV doc pm an cdv ct), osl⟩) (hcd : codeIn (hd.heap_39 w.params) cdv qual = true) (hroom : A.depth < recursionLimit)
    (hbind : BindsTo s (fnOf name qual params body scope dV kV doc pm an cdv ct) ⟨args, []⟩ binds) (hloc : ∀ y ∈ binds, scope.names.lookup y.1 = some .local)
    (hcell : ∀ x ∈ scope.names, x.2 ≠ .cell) (hco : scope.isCoroutine = false) (hgen : scope.isGenerator = false) (hk : scope.kind = .function)
    (h : ∀ (g : Heap) (L : Addr) (h₁ : Heap), g = s.heap → Fr g L h₁ (fun y => binds.reverse.lookup y) → News g L h₁ [] →
      wpAny (model prog w) (A.deeper (envOf qual scope L f cdv)) (execs body (envOf qual scope L f cdv)) (fun _ _ => False)
        (fun e s' => wpAny (model prog w) (A.deeper (envOf qual scope L f cdv)) (leaving (envOf qual scope L f cdv) e) (fun _ s'' => E e s'') (fun _ _ => False) s')
        { s with heap := h₁, toks := s.toks + binds.length }) :
    wpAny (model prog w) A (call (.ref f) args) (fun _ _ => False) E s := by
  refine wpAny_call ?_
  refine codeAny_call_def (fd := fnOf name qual params body scope dV kV doc pm an cdv ct) (body := body) (binds := binds) hroom (X _ _ ho) rfl T.nolimit (codeRec_of X hcd) rfl hbind hcell hloc (fun h₁ hns hk₁ => ?_) hco hgen hk
  refine wpAny_mono (h s.heap s.heap.objs.size h₁ rfl ⟨hns, hk₁, Nat.le_refl _⟩ (fun _ hp => nomatch hp)) (fun fl s' hl => hl.elim) fun e s' hl => ?_
  exact wpAny_mono hl (fun _ _ x => x) fun _ _ x => x.elim
end

theorem parse_raise {prog : Program} {w : World} {A : Around} {s : Shared} {base : Heap} {fr : List Env} {p : Program} {loose : List Str} {mean : ExcName → Option Value} {mg mb : Str → Option Value} (hh0 : A.handled = none) (T : Top p loose mean mg mb s.heap) (X : (hd.heap_39 w.params).In s.heap) (B : Below A base fr s.heap)
    (R : Rm A 1) (ht : 1 ≤ s.toks) {x : List Nat} {t1 : Tok} (hlen : x.length ≤ 10000) (hp : parseL x = none) :
    wpAny (model prog w) A (call (.ref 53) [.str (S x) t1]) (fun _ _ => False)
      (fun e s' => ∃ h' tk' a t vs, e = .ref a ∧ s' = { s with heap := h', toks := tk' } ∧ RaisedS base s.heap fr a (.ref 44) t vs [] h' ∧ s.heap.UpToSlots h') s := by
  refine enterR (binds := [("resp", .str (S x) t1)]) X T (by k_is) (by k_is) (by have := R.d; omega) (BindsTo.of_eq rfl) (locs rfl) (by decide) rfl rfl rfl ?_
  intro g L h₁ hg F N
  rw [← hg] at B X T
  walk_at "my go"
  refine sliceTo rfl (b := 3) rfl (by walk_at "my tok") F N (by omega) ?_
  clear F N
  intro h2 t2 tk2 ht2 F N
  rw [show Str.ofString "257" = S [50, 53, 55] from by decide +kernel]
  walk_at "my go"
  · (rename Heap.MadeExcOf _ _ _ _ _ => hx)
    refine leave_raiseS B hx F N ?_
    intro h3 t3 RS RK U
    exact ⟨_, _, _, _, _, rfl, rfl, hg ▸ RS, hg ▸ U⟩
  · (rename (_ != _) = false => hq)
    exfalso
    have hq' : x.take 3 = [50, 53, 55] := by
      rw [bne, S_eqb] at hq
      simpa using hq
    rw [parseL, if_pos hq'] at hp
    split at hp <;> cases hp
end Mine
end
-- MHeard
section
open PySem PySem.W PyProof.Rows PySem.Calls
set_option maxRecDepth 100000
set_option Elab.async false
set_option linter.unusedVariables false
set_option maxHeartbeats 4000000
namespace Mine
local macro_rules | `(tactic| walk_at "my go") => `(tactic| repeat' (walk_at "my call"; walk_at "my base"; walk_at "my if"; walk_at "my pow"; walk_at "my while"; walk_at "my len"; walk_at "my leave"; walk_at "my one"))
theorem fillH : PySem.Challenge.rw_wn0108_01 = PySem.Challenge.rw_wn0108_01 ∧ Mine.hd.heap_39 = Mine.hd.heap_39 := by
  k_fill
  exact ⟨rfl, rfl⟩

/-- all stays but the slots of the frames below -/
structure KeepT (fs : List Addr) (h h' : Heap) : Prop where
  keep : ∀ b o, h.get? b = some o → b ∉ fs → h'.get? b = some o
  slots : h.UpToSlots h'
theorem Keep.T {fs : List Addr} {h h' : Heap} (k : Keep h h') : KeepT fs h h' := ⟨fun b o e _ => k b o e, .of_keeps k⟩
theorem KeepT.trans {fs : List Addr} {h h' h'' : Heap} (x : KeepT fs h h') (y : KeepT fs h' h'') : KeepT fs h h'' := ⟨fun b o e n => y.keep b o (x.keep b o e n) n, x.slots.trans y.slots⟩
/-- the frames' objects -/
noncomputable def fsOf (A : Around) : List Addr := (A.frames.getD []).filterMap (·.frame)
noncomputable def EndsT (fs : List Addr) (s : Shared) (P : Heap → Value → Prop) (r : Value) (s' : Shared) : Prop :=
  ∃ h' tk', s' = { s with heap := h', toks := tk' } ∧ KeepT fs s.heap h' ∧ P h' r
noncomputable abbrev GivesT (prog : Program) (w : World) (A : Around) (f : Addr) (args : List Value) (s : Shared) (P : Heap → Value → Prop) : Prop :=
  wpAny (model prog w) A (call (.ref f) args) (EndsT (fsOf A) s P) (fun _ _ => False) s
theorem GivesT.useT {prog : Program} {w : World} {A : Around} {s : Shared} {f : Addr} {args : List Value} {P : Heap → Value → Prop} {Q E : Value → Shared → Prop} (g : GivesT prog w A f args s P) (ht : 1 ≤ s.toks)
    (k : ∀ h' tk' r, 1 ≤ tk' → KeepT (fsOf A) s.heap h' → P h' r → Q r { s with heap := h', toks := tk' }) : wpAny (model prog w) A (call (.ref f) args) Q E s :=
  wpAny_mono (wpAny_toks_of ht g) (fun r s' ⟨ht', h', tk', e, hk, hp⟩ => by subst e; exact k h' tk' r ht' hk hp) fun _ _ x => x.2.elim

/-- where a call may be made from that catches -/
structure Cz (w : World) (A : Around) (base : Heap) (fr : List Env) (p : Program) (loose : List Str) (mean : ExcName → Option Value) (mg mb : Str → Option Value) (h : Heap) : Prop where
  hh : A.handled = none
  B : Below A base fr h
  X : (hd.heap_39 w.params).In base
  T : Top p loose mean mg mb base
  D : KtsDicts (fr.filterMap (·.frame)) h
section
variable {prog : Program} {w : World} {A : Around} {s : Shared} {base : Heap} {fr : List Env} {p : Program} {loose : List Str} {mean : ExcName → Option Value} {mg mb : Str → Option Value}
theorem Cz.fs {h : Heap} (C : Cz w A base fr p loose mean mg mb h) : fsOf A = fr.filterMap (·.frame) := by unfold fsOf; rw [C.B.stack]; rfl
theorem Cz.top {h : Heap} (C : Cz w A base fr p loose mean mg mb h) : Top p loose mean mg mb h := C.T.keeps C.B.stays
theorem Cz.kin {h : Heap} (C : Cz w A base fr p loose mean mg mb h) : (hd.heap_39 w.params).In h := C.X.keeps C.B.stays
theorem Cz.cx {h : Heap} (C : Cz w A base fr p loose mean mg mb h) : Cx w A h := ⟨C.hh, ⟨_, _, _, _, _, C.top⟩, C.kin, _, _, C.B⟩
theorem Cz.turn {h h' : Heap} (C : Cz w A base fr p loose mean mg mb h) (T : KtsTurn (fr.filterMap (·.frame)) h h') (B : Below A base fr h') : Cz w A base fr p loose mean mg mb h' := ⟨C.hh, B, C.X, C.T, C.D.turn T⟩
theorem Cz.inner {g h : Heap} {L a : Addr} {m : Str → Option Value} {name : Str} {scope : Scope} {cd : Value} (C : Cz w A base fr p loose mean mg mb g) (F : Fr g L h m) (hk : scope.kind = .function) :
    Cz w (A.deeper (envOf name scope L a cd)) base (envOf name scope L a cd :: fr) p loose mean mg mb h :=
  ⟨C.hh, C.B.push F hk, C.X, C.T, fun b hb => by
    rcases kts_mem hb with rfl | hb
    · obtain ⟨o, es, n, ho, hd, _⟩ := F.ns
      exact ⟨o, es, n, ho, hd⟩
    · obtain ⟨o, es, n, ho, hd⟩ := C.D b hb
      exact ⟨o, es, n, F.keep _ _ ho, hd⟩⟩

theorem enterT {name qual : Str} {params : Arguments} {body : List Stmt} {scope : Scope} {dV kV doc pm cdv ct oc : Value} {an od : Option Addr} {osl : Array (Option Value)} {f : Addr} {args : List Value} {binds : List (Str × Value)}
    {P : Heap → Value → Prop} (C : Cz w A base fr p loose mean mg mb s.heap)
    (ho : (hd.heap_39 w.params).lookup f = some ⟨oc, od, .func (fnOf name qual params body scope dV kV doc pm an cdv ct), osl⟩) (hcd : codeIn (hd.heap_39 w.params) cdv qual = true) (hroom : A.depth < recursionLimit)
    (hbind : BindsTo s (fnOf name qual params body scope dV kV doc pm an cdv ct) ⟨args, []⟩ binds) (hloc : ∀ y ∈ binds, scope.names.lookup y.1 = some .local)
    (hcell : ∀ x ∈ scope.names, x.2 ≠ .cell) (hco : scope.isCoroutine = false) (hgen : scope.isGenerator = false) (hk : scope.kind = .function)
    (h : ∀ (g : Heap) (L : Addr) (h₁ : Heap) (Q : Flow → Shared → Prop), g = s.heap → Fr g L h₁ (fun y => binds.reverse.lookup y) → News g L h₁ [] → Cz w A base fr p loose mean mg mb g →
      (∀ v g' h' m' tk', KtsTurn (fr.filterMap (·.frame)) g g' → Fr g' L h' m' → P h' v → Q (.ret v) { s with heap := h', toks := tk' }) →
      wpAny (model prog w) (A.deeper (envOf qual scope L f cdv)) (execs body (envOf qual scope L f cdv)) Q (fun _ _ => False)
        { s with heap := h₁, toks := s.toks + binds.length }) :
    GivesT prog w A f args s P := by
  refine wpAny_call ?_
  refine codeAny_call_def (fd := fnOf name qual params body scope dV kV doc pm an cdv ct) (body := body) (binds := binds) hroom (C.kin _ _ ho) rfl C.top.nolimit (codeRec_of C.kin hcd) rfl hbind hcell hloc (fun h₁ hns hk₁ => ?_) hco hgen hk
  refine wpAny_mono (h s.heap s.heap.objs.size h₁ (fun fl s' => ∃ v, fl = .ret v ∧ EndsT (fsOf A) s P v s') rfl ⟨hns, hk₁, Nat.le_refl _⟩ (fun _ hp => nomatch hp) C ?_) (fun fl s' hl => ?_) fun _ _ x => x.elim
  · intro v g' h' m' tk' T F hp
    refine ⟨v, rfl, h', tk', rfl, ⟨fun b o e nm => F.keep _ _ (T.other b o e (C.fs ▸ nm)), fun b o e _ => ?_⟩, hp⟩
    obtain ⟨sl, e'⟩ := T.up e
    exact ⟨sl, F.keep _ _ e'⟩
  · obtain ⟨v, rfl, hl⟩ := hl
    exact hl

/-- behind a call that may have caught -/
theorem afterT {g hs h' : Heap} {L a : Addr} {m : Str → Option Value} {news : List (Addr × Obj)} {name : Str} {scope : Scope} {cd : Value} (C : Cz w A base fr p loose mean mg mb g) (F : Fr g L hs m) (N : News g L hs news)
    (k : KeepT (fsOf (A.deeper (envOf name scope L a cd))) hs h') :
    ∃ g', KtsTurn (fr.filterMap (·.frame)) g g' ∧ Fr g' L h' m ∧ News g' L h' news ∧ Cz w A base fr p loose mean mg mb g' := by
  have hfs : fsOf (A.deeper (envOf name scope L a cd)) = (envOf name scope L a cd :: fr).filterMap (·.frame) := by
    unfold fsOf; rw [Around.frames_deeper C.B.stack]; rfl
  rw [hfs] at k
  obtain ⟨g', T, F', B'⟩ := kts_ground (name := name) (scope := scope) (a := a) (cd := cd) (B := hideAll hs ((envOf name scope L a cd :: fr).filterMap (·.frame))) C.B F (fun b o e nm => hideAll_get _ e nm)
    (fun b o e => k.keep b o (of_hideAll _ e) fun hm => by rw [hideAll_none _ hm] at e; cases e) k.slots
  refine ⟨g', T, F', fun q hq => ⟨k.keep _ _ (N q hq).1 fun hm => ?_, (N q hq).2.1, T.none_ _ (N q hq).2.2⟩, C.turn T B'⟩
  rcases kts_mem hm with e | hm
  · exact (N q hq).2.1 e
  · obtain ⟨_, o, ho, _⟩ := C.B.frames.mem hm
    rw [(N q hq).2.2] at ho; cases ho

theorem whileI {test : Expr} {body : List Stmt} {env : Env} {pos : Pos} {Q : Flow → Shared → Prop} {E : Value → Shared → Prop} (I : Nat → Shared → Prop) (n₀ : Nat) (h0 : I n₀ s)
    (turn : ∀ n s', I n s' → wpAny (model prog w) A (isTrue test env (eval test env)) (fun b s₂ =>
        if b = true then wpAny (model prog w) A (execs body env) (fun f s₃ => match f with
          | .ret v => Q (.ret v) s₃
          | .brk => Q .next s₃
          | _ => ∃ m, m < n ∧ I m s₃) (fun _ _ => False) s₂ else Q .next s₂) (fun _ _ => False) s') :
    wpAny (model prog w) A (exec (.While test body [] pos) env) Q E s := by
  refine wpAny_noRaise (wpAny_While (codeAny_whileLoop I ?_ n₀ h0))
  intro n s' hI
  refine wpAny_mono (turn n s' hI) (fun b s₂ h₂ => ?_) fun _ _ e => e.elim
  cases b with
  | false =>
    simp only [Bool.false_eq_true, if_false] at h₂ ⊢
    exact wpAny_execs_nil h₂
  | true =>
    simp only [if_true] at h₂ ⊢
    refine wpAny_mono h₂ (fun f s₃ h₃ => ?_) fun _ _ e => e.elim
    cases f with
    | next => exact h₃
    | cont => exact h₃
    | brk => exact h₃
    | ret v => exact h₃

/-- the caller's own objects hidden from what was raised -/
theorem hideNews {g G h : Heap} {L a e t : Addr} {m : Str → Option Value} {news : List (Addr × Obj)} {name : Str} {scope : Scope} {cd cls : Value} {vs : List Value} (C : Cz w A base fr p loose mean mg mb g) (F : Fr g L G m) (N : News g L G news)
    (R : RaisedS base G (envOf name scope L a cd :: fr) e cls t vs [] h) (U : G.UpToSlots h) :
    ∃ G', RaisedS base G' (envOf name scope L a cd :: fr) e cls t vs news h ∧ Fr g L G' m ∧ G'.UpToSlots h := by
  have nm : ∀ b o, g.get? b = some o → b ∉ news.map (·.1) := fun b o e q => by
    obtain ⟨p, hp, rfl⟩ := List.mem_map.mp q
    rw [(N p hp).2.2] at e; cases e
  have nL : L ∉ news.map (·.1) := fun q => by
    obtain ⟨p, hp, e⟩ := List.mem_map.mp q
    exact (N p hp).2.1 e
  obtain ⟨⟨B, hB, hBG, hl, hfl, hnew⟩, htup⟩ := R
  refine ⟨hideAll G (news.map (·.1)), ⟨⟨B, hB, fun b o e n => hBG b o (of_hideAll _ e) n, fun q hq => ⟨hBG _ _ (N q hq).1 fun hm => ?_, hideAll_none _ (List.mem_map_of_mem hq), fresh_of_stays C.B.stays (N q hq).2.2⟩, hfl, hnew⟩, htup⟩, ⟨?_, fun b o e => hideAll_get _ (F.keep b o e) (nm b o e), F.above⟩, fun b o e => U b o (of_hideAll _ e)⟩
  · rcases kts_mem hm with e | hm
    · exact (N q hq).2.1 e
    · obtain ⟨_, o, ho, _⟩ := C.B.frames.mem hm
      rw [(N q hq).2.2] at ho; cases ho
  · obtain ⟨o, es, ep, ho, r⟩ := F.ns
    exact ⟨o, es, ep, hideAll_get _ ho nL, r⟩
end
end Mine
end
-- MHeard2
section
open PySem PySem.W PyProof.Rows PySem.Calls
set_option maxRecDepth 100000
set_option Elab.async false
set_option linter.unusedVariables false
set_option maxHeartbeats 4000000
namespace Mine
local macro_rules | `(tactic| walk_at "my go") => `(tactic| repeat' (walk_at "my call"; walk_at "my base"; walk_at "my blt"; walk_at "my if"; walk_at "my pow"; walk_at "my while"; walk_at "my leave"; walk_at "my ex"; walk_at "my one"))
local macro_rules | `(tactic| walk_at "execs nil") => `(tactic| refine wpAny_execs_nil ?_)
theorem fillH2 : PySem.Challenge.rw_wn0108_01 = PySem.Challenge.rw_wn0108_01 ∧ Mine.hd.heap_39 = Mine.hd.heap_39 := by
  k_fill
  exact ⟨rfl, rfl⟩

inductive NodesIn (news : List (Addr × Obj)) : List Value → List (Nat × Nat) → Prop
  | nil : NodesIn news [] []
  | cons {b : Addr} {o : Obj} {d c : Nat} {t1 t2 : Tok} {vs : List Value} {t : List (Nat × Nat)} : (b, o) ∈ news → o.cls = .type "tuple" → (∃ n, o.data = .seq #[.int (d : Int) t1, .str (S [c]) t2] n) → NodesIn news vs t → NodesIn news (.ref b :: vs) ((d, c) :: t)
theorem NodesIn.mono {news news' : List (Addr × Obj)} (h : ∀ p ∈ news, p ∈ news') : ∀ {vs : List Value} {t : List (Nat × Nat)}, NodesIn news vs t → NodesIn news' vs t
  | _, _, .nil => .nil
  | _, _, .cons a b c r => .cons (h _ a) b c (r.mono h)
theorem NodesIn.append {news : List (Addr × Obj)} : ∀ {vs ws : List Value} {t u : List (Nat × Nat)}, NodesIn news vs t → NodesIn news ws u → NodesIn news (vs ++ ws) (t ++ u)
  | _, _, _, _, .nil, y => y
  | _, _, _, _, .cons a b c r, y => .cons a b c (r.append y)
theorem NodesIn.length {news : List (Addr × Obj)} : ∀ {vs : List Value} {t : List (Nat × Nat)}, NodesIn news vs t → vs.length = t.length
  | _, _, .nil => rfl
  | _, _, .cons _ _ _ r => congrArg (· + 1) r.length
theorem NodesIn.at {news : List (Addr × Obj)} {h : Heap} (N : ∀ p ∈ news, h.get? p.1 = some p.2) : ∀ {vs : List Value} {t : List (Nat × Nat)}, NodesIn news vs t → NodesAt h vs t
  | _, _, .nil => .nil
  | _, _, .cons a b c r => .cons ⟨_, _, _, rfl, _, N _ a, b, c⟩ (r.at N)

/-- what the replies are heard as; k: the calls that stand in one another -/
inductive Hears : List Nat → Nat → List (Nat × Nat) → Nat → Prop
  | stop {told : List Nat} {d k : Nat} : parseL told = none → Hears told d [] k
  | step {told rest : List Nat} {d c k : Nat} {sub more : List (Nat × Nat)} : parseL told = some (c :: rest) → Hears rest (d + 1) sub k →
      Hears (told.drop (6 + (c :: rest).length + (c :: rest).count 34)) d more (k + 1) → Hears told d ((d, c) :: (sub ++ more)) (k + 1)

section
variable {prog : Program} {w : World} {A : Around} {E : Value → Shared → Prop} {s : Shared} {h₀ : Heap} {L : Addr} {m : Str → Option Value} {news : List (Addr × Obj)}
theorem extendL {D b : Addr} {vs ws : List Value} {n n2 : Nat} {Q : Value → Shared → Prop} (F : Fr h₀ L s.heap m) (N : News h₀ L s.heap ((D, W.listOf vs.toArray n) :: news)) (hd : ∀ p ∈ news, p.1 ≠ D) (hb : (b, W.listOf ws.toArray n2) ∈ news)
    (hz : vs.length + ws.length ≤ 100000)
    (h : ∀ h' n', Fr h₀ L h' m → News h₀ L h' ((D, W.listOf (vs ++ ws).toArray n') :: news) → Q .none { s with heap := h' }) : wpAny (model prog w) A (call (.builtin "list.extend") [.ref D, .ref b]) Q E s := by
  have door : ¬(!vs.toArray.isEmpty && Builtin.List.listTooLong (vs.toArray.size + ws.toArray.size)) = true := extend_door (by rw [List.size_toArray, List.size_toArray, sizeLine_eq]; omega)
  by_cases hw : ws = []
  · subst hw
    refine kxn_extend F N (.tail _ hb) rfl (.head hd) door (by simp; rw [sizeLine_eq]; simp at hz; omega) (by simp; rw [sizeLine_eq]; simp at hz; omega) ?_
    intro h' F' N'
    refine h h' n F' ?_
    rw [List.append_nil]; exact N'
  · refine kl_extend F N (.tail _ hb) (l := vs ++ ws) rfl (by simpa using hw) (.head hd) door (by simp; rw [sizeLine_eq]; omega) (by simp; rw [sizeLine_eq]; omega) ?_
    intro h' F' N'
    exact h h' _ F' N'
end
theorem news_ne {g h : Heap} {L a b : Addr} {o o' : Obj} {news : List (Addr × Obj)} (N : News g L h news) (ha : (a, o) ∈ news) (hb : (b, o') ∈ news) (hc : o.cls ≠ o'.cls) : a ≠ b := fun e => by
  subst e
  have h1 := (N _ ha).1
  have h2 := (N _ hb).1
  rw [h1] at h2
  exact hc (congrArg Obj.cls (Option.some.inj h2))
theorem push_list (vs : List Value) (v : Value) : vs.toArray.push v = (vs ++ [v]).toArray := by simp
theorem tup_ne_list : Value.type "tuple" ≠ Value.type "list" := by intro e; injection e with e; exact absurd e (by decide)
/-- a list of nodes that was made anew -/
noncomputable def NewTree (h₀ h : Heap) (r : Value) (t : List (Nat × Nat)) : Prop :=
  ∃ a n vs led, r = .ref a ∧ (∀ q ∈ (a, W.listOf (List.toArray vs) n) :: led, h.get? q.1 = some q.2 ∧ h₀.get? q.1 = none) ∧ NodesIn led vs t

noncomputable def HInv (w : World) (A : Around) (base : Heap) (fr : List Env) (p : Program) (loose : List Str) (mean : ExcName → Option Value) (mg mb : Str → Option Value) (s : Shared) (g : Heap) (L D : Addr) (d k : Nat) (t : List (Nat × Nat)) (n : Nat) (s' : Shared) : Prop :=
  ∃ g' h m vs nl tups told' t1 t2 so more tk, s' = { s with heap := h, toks := tk } ∧ 1 ≤ tk ∧ KtsTurn (fr.filterMap (·.frame)) g g' ∧ Cz w A base fr p loose mean mg mb g' ∧ Fr g' L h m ∧ News g' L h ((D, W.listOf (List.toArray vs) nl) :: tups) ∧
    (∀ q ∈ tups, q.1 ≠ D) ∧ m "told" = some (.str (S told') t1) ∧ m "depth" = some (.int (d : Int) t2) ∧ m "heard" = some (.ref D) ∧ NodesIn tups vs so ∧ Hears told' d more k ∧ so ++ more = t ∧ told'.length ≤ 10000 ∧ n = told'.length

theorem parse_raiseZ {prog : Program} {w : World} {A : Around} {s : Shared} {base : Heap} {fr : List Env} {p : Program} {loose : List Str} {mean : ExcName → Option Value} {mg mb : Str → Option Value} (C : Cz w A base fr p loose mean mg mb s.heap)
    (R : Rm A 1) (ht : 1 ≤ s.toks) {x : List Nat} {t1 : Tok} (hlen : x.length ≤ 10000) (hp : parseL x = none) {Q E : Value → Shared → Prop}
    (k : ∀ h' tk' a t vs, 1 ≤ tk' → RaisedS base s.heap fr a (.ref 44) t vs [] h' → s.heap.UpToSlots h' → E (.ref a) { s with heap := h', toks := tk' }) :
    wpAny (model prog w) A (call (.ref 53) [.str (S x) t1]) Q E s :=
  wpAny_mono (wpAny_toks_of ht (parse_raise C.hh C.top C.kin C.B R ht hlen hp)) (fun _ _ h => h.2.elim) fun e s2 h => by
    obtain ⟨ht2, h2, tk2, a, tp, vs2, rfl, rfl, RS, U⟩ := h
    exact k h2 tk2 a tp vs2 ht2 RS U

theorem unq_len : ∀ l : List Nat, (unq l).length ≤ l.length
  | [] => Nat.le_refl _
  | [c] => by
    rw [unq]
    split <;> simp
  | c :: k :: r => by
    have h1 := unq_len r
    have h2 := unq_len (k :: r)
    rw [unq]
    split
    · split
      · simp only [List.length_cons]; omega
      · simp
    · simp only [List.length_cons] at h2 ⊢; omega
theorem parseL_len {told rest : List Nat} {c : Nat} (h : parseL told = some (c :: rest)) : rest.length + 6 ≤ told.length := by
  unfold parseL at h
  split at h
  · split at h
    · have h1 := unq_len (told.drop 5)
      have h2 : unq (told.drop 5) = c :: rest := Option.some.inj h
      rw [h2, List.length_drop, List.length_cons] at h1
      omega
    · cases h
  · cases h

theorem heard_spec {prog : Program} {w : World} : ∀ (k : Nat) (told : List Nat) (d : Nat) (t : List (Nat × Nat)) (A : Around) (s : Shared) (base : Heap) (fr : List Env) (p : Program) (loose : List Str) (mean : ExcName → Option Value) (mg mb : Str → Option Value)
    (C : Cz w A base fr p loose mean mg mb s.heap) (R : Rm A (k + 3)) (ht : 1 ≤ s.toks) (t1 t2 : Tok), told.length ≤ 10000 → d + k ≤ 1000 → Hears told d t k → t.length ≤ 1000 →
    GivesT prog w A 215 [.str (S told) t1, .int (d : Int) t2] s (fun h r => NewTree s.heap h r t) := by
  intro k
  induction k using Nat.strongRecOn with
  | ind k ih =>
  intro told d t A s base fr p loose mean mg mb C R ht t1 t2 hlen hdk hH htl
  refine enterT (binds := [("told", .str (S told) t1), ("depth", .int (d : Int) t2)]) C (by k_is) (by k_is) (by have := R.d; omega) (BindsTo.of_eq rfl) (locs rfl) (by decide) rfl rfl rfl ?_
  intro g L h₁ Q hg F N C ret
  rw [← hg] at ret
  walk_at "my go"
  (rename Fr _ _ _ _ => F1)
  (rename News _ _ _ _ => N1)
  refine whileI (HInv w A base fr p loose mean mg mb s g L h₁.objs.size d k t) told.length ⟨g, _, _, [], 0, [], told, t1, t2, [], t, _, rfl, by walk_at "my tok", KtsTurn.refl, C, F1, N1, (fun _ hq => nomatch hq), rfl, rfl, rfl, .nil, hH, rfl, hlen, rfl⟩ ?turn
  generalize h₁.objs.size = D
  clear F1 N1 hlen hH C F N
  rintro n s' ⟨g', h, m, vs, nl, tups, told, t1, t2, so, more, tk, rfl, htk, T, C, F, N, hnD, e1, e2, e3, hNI, hH, hso, hlen, rfl⟩
  have F := fr_say F (x := "told") (v := .str (S told) t1) (by simp +decide [e1])
  have F := fr_say F (x := "depth") (v := .int (d : Int) t2) (by simp +decide [e2])
  have F := fr_say F (x := "heard") (v := .ref D) (by simp +decide [e3])
  have X := C.kin
  have TT := C.top
  have B := C.B
  walk_at "my go"
  cases hH with
  | stop hnone =>
    refine parse_raiseZ (C.inner F rfl) (R.inner.le (by omega)) (by walk_at "my tok") hlen hnone ?_
    intro h2 tk2 a tp vs2 htk2 RS U
    obtain ⟨G', RS', F', U'⟩ := hideNews C F N RS U
    dsimp only
    refine caught_SO0 (KF := hd.heap_39 w.params) RS' F' C.B U' C.X C.T C.D KtsTurn.refl (by k_is) (by kts_isx) ?_ rfl (by rfl) (by decide) PassesOwnAt.never
    intro h3 g3 news3 T3 F3 N3 G3 N3' B3 X3 TT3 D3
    walk_at "my go"
    refine ret _ g3 _ _ _ (T.trans T3) (by assumption) ⟨D, nl, vs, tups, rfl, fun q hq => ⟨(N3' q hq).1, ?_⟩, ?_⟩
    · cases hq0 : g.get? q.1 with
      | none => rfl
      | some o =>
        obtain ⟨sl, e⟩ := (T.trans T3).up hq0
        rw [(N3' q hq).2.2] at e; cases e
    · rw [List.append_nil] at hso
      exact hso ▸ hNI
  | step hsome hsub hmore =>
    rename_i rest c k sub more
    have hrl : rest.length + 6 ≤ told.length := parseL_len hsome
    refine (parse_spec (C.inner F rfl).cx (R.inner.le (by omega)) (by walk_at "my tok") hlen hsome).useT (by walk_at "my tok") ?_
    rintro h2 tk2 r2 ht2 hk2 ⟨t3, rfl⟩
    have F2 := F.after hk2
    have N2 := News.keep N hk2
    clear F N
    dsimp only
    walk_at "my go"
    (rename Fr _ _ _ _ => F3)
    (rename News _ _ _ _ => N3)
    refine sliceTo rfl (b := 1) rfl (by walk_at "my tok") F3 N3 (by simp only [List.length_cons]; omega) ?_
    clear F3 N3
    intro h3 t4 tk3 ht3 F3 N3
    rw [show (c :: rest).take 1 = [c] from rfl]
    walk_at "my go"
    (rename Fr _ _ _ _ => F4)
    (rename News _ _ _ _ => N4)
    have hvl : vs.length ≤ 1000 := by
      have h1 := hNI.length
      have h2 := congrArg List.length hso
      rw [List.length_append] at h2
      omega
    refine append_K F4 N4 (.tail (news_ne N4 (.head _) (.tail _ (.head _)) tup_ne_list) (.head hnD)) ?_ (by rw [List.size_toArray, sizeLine_eq]; omega)
    clear F4 N4
    intro h5 F5 N5
    walk_at "my go"
    (rename Fr _ _ _ _ => F6)
    (rename News _ _ _ _ => N6)
    refine sliceFrom rfl (b := 1) rfl (by walk_at "my tok") F6 N6 (by simp only [List.length_cons]; omega) ?_
    clear F6 N6
    intro h7 t7 tk7 ht7 F7 N7
    rw [show (c :: rest).drop 1 = rest from rfl]
    walk_at "my go"
    refine (ih k (Nat.lt_succ_self k) rest (d + 1) sub _ _ base _ p loose mean mg mb (C.inner F7 rfl) R.inner (by walk_at "my tok") t7 _ (by omega) (by omega) hsub (by
      have h2 := congrArg List.length hso
      simp only [List.length_append, List.length_cons] at h2
      omega)).useT (by walk_at "my tok") ?_
    intro h8 tk8 r8 ht8 hk8 hP
    obtain ⟨g8, T8, F8, N8, C8⟩ := afterT C F7 N7 hk8
    obtain ⟨a, n8, ws, led, rfl, hled, hws⟩ := hP
    dsimp only at hled ⊢
    obtain ⟨D1, N8, hDh⟩ : ∃ D1, News g8 L h8 ((D, W.listOf (vs ++ [Value.ref D1]).toArray (nl + 1)) :: (D1, { cls := Value.type "tuple", data := Data.seq #[Value.int (d : Int) t2, Value.str (S [c]) t4] }) :: (a, W.listOf ws.toArray n8) :: (led ++ tups)) ∧ (∃ o, h7.get? D = some o) ∧ D1 ≠ D := by
      refine ⟨_, ?_, ⟨_, (N7 _ (.tail _ (.head _))).1⟩, news_ne N8 (.head _) (.tail _ (.head _)) tup_ne_list⟩
      have hnew : ∀ q ∈ (a, W.listOf ws.toArray n8) :: led, h8.get? q.1 = some q.2 ∧ q.1 ≠ L ∧ g8.get? q.1 = none := fun q hq => by
        obtain ⟨e1, e2⟩ := hled q hq
        refine ⟨e1, fun e => ?_, T8.none_ _ (kts_none F7.keep e2)⟩
        obtain ⟨o, es, ep, ho, _⟩ := F7.ns
        rw [e] at e2
        have ho' : h7.get? L = some o := ho
        rw [e2] at ho'; cases ho'
      intro q hq
      rcases List.mem_cons.mp hq with rfl | hq
      · have := N8 _ (.tail _ (.head _))
        rw [push_list] at this
        exact this
      · rcases List.mem_cons.mp hq with rfl | hq
        · exact N8 _ (.head _)
        · rcases List.mem_cons.mp hq with rfl | hq
          · exact hnew _ (.head _)
          · rcases List.mem_append.mp hq with hq | hq
            · exact hnew _ (.tail _ hq)
            · exact N8 _ (.tail _ (.tail _ hq))
    obtain ⟨⟨oD, hoD⟩, hD1⟩ := hDh
    have hnD2 : ∀ q ∈ (D1, { cls := Value.type "tuple", data := Data.seq #[Value.int (d : Int) t2, Value.str (S [c]) t4] }) :: (a, W.listOf ws.toArray n8) :: (led ++ tups), q.1 ≠ D := by
      have hnew : ∀ q ∈ (a, W.listOf ws.toArray n8) :: led, q.1 ≠ D := fun q hq e => by
        have := (hled q hq).2
        rw [e, hoD] at this; cases this
      intro q hq
      rcases List.mem_cons.mp hq with rfl | hq
      · exact hD1
      · rcases List.mem_cons.mp hq with rfl | hq
        · exact hnew _ (.head _)
        · rcases List.mem_append.mp hq with hq | hq
          · exact hnew _ (.tail _ hq)
          · exact hnD _ hq
    clear F7 N7 X TT B hled hk8 hoD
    have X := C8.kin
    have TT := C8.top
    have B := C8.B
    walk_at "my go"
    have hwl : ws.length ≤ 1000 := by
      have h1 := hws.length
      have h2 := congrArg List.length hso
      simp only [List.length_append, List.length_cons] at h2
      omega
    refine extendL F8 N8 hnD2 (.tail _ (.head _)) (by rw [List.length_append]; simp only [List.length_cons, List.length_nil]; omega) ?_
    clear F8 N8
    intro h9 n9 F9 N9
    walk_at "my go"
    refine lenS rfl (by simp only [List.length_cons]; omega) ?_
    intro t10 tk10 ht10
    walk_at "my go"
    rw [show Str.ofString "\"" = S [34] from by decide +kernel]
    refine SC.count ?_
    rw [count_S]
    walk_at "my go"
    (rename Fr _ _ _ _ => F11)
    (rename News _ _ _ _ => N11)
    refine sliceFrom rfl (b := 6 + (c :: rest).length + (c :: rest).count 34) (by omega) (by walk_at "my tok") F11 N11 (by omega) ?_
    clear F11 N11
    intro h12 t12 tk12 ht12 F12 N12
    walk_at "my go"
    (rename Fr _ _ _ _ => F13)
    (rename News _ _ _ _ => N13)
    refine ⟨_, ?_, g8, _, _, vs ++ [Value.ref D1] ++ ws, n9, _, told.drop (6 + (c :: rest).length + (c :: rest).count 34), t12, t2, so ++ ((d, c) :: sub), more, _, rfl, ?_, T.trans T8, C8, F13, N13, hnD2, rfl, rfl, rfl, ?_, hmore, ?_, ?_, rfl⟩
    · rw [List.length_drop]; omega
    · walk_at "my tok"
    · rw [List.append_assoc]
      refine NodesIn.append (hNI.mono fun q hq => .tail _ (.tail _ (List.mem_append_right _ hq))) ?_
      exact .cons (.head _) rfl ⟨_, rfl⟩ (hws.mono fun q hq => .tail _ (.tail _ (List.mem_append_left _ hq)))
    · rw [← hso]; simp
    · rw [List.length_drop]; omega
end Mine
end
-- MInit
section
open PySem PySem.W PyProof.Rows PySem.Calls
set_option maxRecDepth 100000
set_option Elab.async false
set_option linter.unusedVariables false
set_option maxHeartbeats 4000000
namespace Mine
local macro_rules | `(tactic| walk_at "my go") => `(tactic| repeat' (walk_at "my call"; walk_at "my base"; walk_at "my blt"; walk_at "my if"; walk_at "my pow"; walk_at "my while"; walk_at "my leave"; walk_at "my ex"; walk_at "my init"; walk_at "my one"))
local macro_rules | `(tactic| walk_at "execs nil") => `(tactic| refine wpAny_execs_nil ?_)
theorem fillInit : PySem.Challenge.rw_wn0108_01 = PySem.Challenge.rw_wn0108_01 ∧ Mine.hd.heap_39 = Mine.hd.heap_39 := by
  k_fill
  exact ⟨rfl, rfl⟩

section
variable {prog : Program} {w : World} {A : Around} {s : Shared}
theorem Cx.mono {g h : Heap} (C : Cx w A g) (k : Keep g h) : Cx w A h := by
  obtain ⟨hh, ⟨p, loose, mean, mg, mb, T⟩, X, base, fr, B⟩ := C
  exact ⟨hh, ⟨p, loose, mean, mg, mb, T.keeps k⟩, X.keeps k, base, fr, B.stack, fun b o e => k _ _ (B.stays b o e), B.frames.of_keeps fun b o e _ => ⟨o, k _ _ e, rfl⟩⟩
/-- a call out of a frame whose own objects are hidden -/
theorem Cx.innerN {g h : Heap} {L : Addr} {m : Str → Option Value} {base : Heap} {fr : List Env} {env : Env} {p : Program} {loose : List Str} {mean : ExcName → Option Value} {mg mb : Str → Option Value} {news : List (Addr × Obj)}
    (hh : A.handled = none) (B : Below A base fr g) (F : Fr g L h m) (N : News g L h news) (X : (hd.heap_39 w.params).In g) (T : Top p loose mean mg mb g) (hf : env.frame = some L) (hk : env.scope.kind = .function) : Cx w (A.deeper env) (hideAll h (news.map (·.1))) := by
  have nm : ∀ b o, g.get? b = some o → b ∉ news.map (·.1) := fun b o e q => by
    obtain ⟨p, hp, rfl⟩ := List.mem_map.mp q
    rw [(N p hp).2.2] at e; cases e
  have nL : L ∉ news.map (·.1) := fun q => by
    obtain ⟨p, hp, e⟩ := List.mem_map.mp q
    exact (N p hp).2.1 e
  have F' : Fr g L (hideAll h (news.map (·.1))) m := by
    refine ⟨?_, fun b o e => hideAll_get _ (F.keep b o e) (nm b o e), F.above⟩
    obtain ⟨o, es, ep, ho, r⟩ := F.ns
    exact ⟨o, es, ep, hideAll_get _ ho nL, r⟩
  exact Cx.inner hh B F' X T hf hk
theorem Cx.make {g : Heap} (C : Cx w A g) (a : Args) : Cx w (A.under (.builtin "type.__call__" a)) g := by
  obtain ⟨hh, T, X, base, fr, B⟩ := C
  exact ⟨hh, T, X, base, fr, B.stack, B.stays, B.frames⟩

theorem codeN {name qual : Str} {params : Arguments} {body : List Stmt} {scope : Scope} {dV kV doc pm cdv ct oc : Value} {an od : Option Addr} {osl : Array (Option Value)} {f : Addr} {args : List Value} {binds : List (Str × Value)}
    {R : Result → Shared → Prop} {g₀ : Heap} {led : List (Addr × Obj)} (C : Cx w A g₀) (hk : Keep g₀ s.heap) (hl : ∀ q ∈ led, s.heap.get? q.1 = some q.2 ∧ g₀.get? q.1 = none)
    (ho : (hd.heap_39 w.params).lookup f = some ⟨oc, od, .func (fnOf name qual params body scope dV kV doc pm an cdv ct), osl⟩) (hcd : codeIn (hd.heap_39 w.params) cdv qual = true) (hroom : A.depth < recursionLimit)
    (hbind : BindsTo s (fnOf name qual params body scope dV kV doc pm an cdv ct) ⟨args, []⟩ binds) (hloc : ∀ y ∈ binds, scope.names.lookup y.1 = some .local)
    (hcell : ∀ x ∈ scope.names, x.2 ≠ .cell) (hco : scope.isCoroutine = false) (hgen : scope.isGenerator = false) (hfun : scope.kind = .function)
    (h : ∀ (g : Heap) (L : Addr) (h₁ : Heap) base fr p loose mean mg mb (Q : Flow → Shared → Prop), Keep g₀ g → g = hideAll s.heap (led.map (·.1)) → Fr g L h₁ (fun y => binds.reverse.lookup y) → News g L h₁ led → Below A base fr g → (hd.heap_39 w.params).In g → Top p loose mean mg mb g →
      (∀ fl s', R (.ok (.ret (match fl with | .ret v => v | _ => .none))) s' → Q fl s') →
      wpAny (model prog w) (A.deeper (envOf qual scope L f cdv)) (execs body (envOf qual scope L f cdv)) Q (fun _ _ => False)
        { s with heap := h₁, toks := s.toks + binds.length }) :
    codeAny (model prog w) A (.call (.ref f) ⟨args, []⟩) R s := by
  have C' := C.mono hk
  obtain ⟨_, ⟨p', loose', mean', mg', mb', T'⟩, X', _⟩ := C'
  have nm : ∀ b o, g₀.get? b = some o → b ∉ led.map (·.1) := fun b o e q => by
    obtain ⟨p, hp, rfl⟩ := List.mem_map.mp q
    rw [(hl p hp).2] at e; cases e
  have st : Keep g₀ (hideAll s.heap (led.map (·.1))) := fun b o e => hideAll_get _ (hk b o e) (nm b o e)
  obtain ⟨hh, ⟨p, loose, mean, mg, mb, T⟩, X, base, fr, B⟩ := C.mono st
  refine codeAny_call_def (fd := fnOf name qual params body scope dV kV doc pm an cdv ct) (body := body) (binds := binds) hroom (X' _ _ ho) rfl T'.nolimit (codeRec_of X' hcd) rfl hbind hcell hloc (fun h₁ hns hk₁ => ?_) hco hgen hfun
  refine wpAny_mono (h (hideAll s.heap (led.map (·.1))) s.heap.objs.size h₁ base fr p loose mean mg mb (fun fl s' => R (.ok (.ret (match fl with | .ret v => v | _ => .none))) s') st rfl ⟨hns, fun b o e => hk₁ b o (of_hideAll _ e), Nat.le_of_eq (hideAll_size _ _)⟩
    (fun p hp => ⟨hk₁ _ _ (hl p hp).1, Nat.ne_of_lt (Heap.lt_size (hl p hp).1), hideAll_none _ (List.mem_map_of_mem hp)⟩) B X T (fun _ _ x => x)) (fun fl s' hl => hl) fun _ _ x => x.elim
/-- all stays, where what was hidden stays -/
theorem keepN {h h' : Heap} {L : Addr} {m : Str → Option Value} {led : List (Addr × Obj)} (hl : ∀ q ∈ led, h.get? q.1 = some q.2) (F : Fr (hideAll h (led.map (·.1))) L h' m) (N : News (hideAll h (led.map (·.1))) L h' led) : Keep h h' := by
  intro b o e
  by_cases hb : b ∈ led.map (·.1)
  · obtain ⟨q, hq, rfl⟩ := List.mem_map.mp hb
    rw [hl q hq] at e
    exact e ▸ (N q hq).1
  · exact F.keep b o (hideAll_get _ e hb)
end

section
variable {prog : Program} {w : World} {A : Around} {E : Value → Shared → Prop} {s : Shared} {h₀ : Heap} {L : Addr} {m : Str → Option Value} {news : List (Addr × Obj)}
theorem addLt {l b : Addr} {vs ws : List Value} {Q : Value → Shared → Prop} (F : Fr h₀ L s.heap m) (N : News h₀ L s.heap news) (hl : s.heap.IsList l vs.toArray) (hb : s.heap.IsList b ws.toArray) (hsz : vs.length + ws.length ≤ sizeLine)
    (h : ∀ D h', Fr h₀ L h' m → News h₀ L h' ((D, W.listOf (vs ++ ws).toArray 0) :: news) → (∀ p ∈ news, @LT.lt Nat _ p.1 D) → Q (.ref D) { s with heap := h' }) :
    wpAny (model prog w) A (binaryOp .Add (.ref l) (.ref b)) Q E s := add_lists F N hl hb (fun h' F' N' => h _ h' F' N' fun p hp => Heap.lt_size (N p hp).1) hsz
theorem foldl_rep (v : Value) : ∀ (k : Nat) (acc : Array Value), List.foldl (fun x1 x2 => x1 ++ x2) acc (List.replicate k #[v]) = acc ++ (List.replicate k v).toArray
  | 0, acc => by simp
  | k + 1, acc => by
    rw [List.replicate_succ, List.foldl_cons, foldl_rep v k, List.replicate_succ]
    apply Array.toList_inj.mp
    simp
theorem mulZ {l : Addr} {v : Value} {n k : Nat} {x : Int} {u : Tok} {Q : Value → Shared → Prop} (F : Fr h₀ L s.heap m) (N : News h₀ L s.heap news) (hm : (l, W.listOf #[v] n) ∈ news) (hx : x = (k : Int)) (hk : k ≤ 100000)
    (h : ∀ D h', Fr h₀ L h' m → News h₀ L h' ((D, W.listOf (List.replicate k v).toArray 0) :: news) → Q (.ref D) { s with heap := h' }) :
    wpAny (model prog w) A (binaryOp .Mult (.ref l) (.int x u)) Q E s := by
  subst hx
  refine mul_list F N (N _ hm).1 (by omega) (by omega) (by simp; omega) ?_
  intro h' F' N'
  refine h _ h' F' ?_
  have e : (List.foldl (fun x1 x2 => x1 ++ x2) #[] (List.replicate (if (#[v] : Array Value).isEmpty = true then 0 else ((k : Int)).toNat) #[v])) = (List.replicate k v).toArray := by
    rw [if_neg (by simp), Int.toNat_natCast, foldl_rep]; simp
  rw [e] at N'
  exact N'
end
theorem tup_ne_dict : Value.type "tuple" ≠ Value.type "dict" := by intro e; injection e with e; exact absurd e (by decide)
structure WS where
  count : List Int
  b : Nat
  n : Nat
  nt : Nat
noncomputable def grow (count : List Int) (b : Nat) : List Int := if count.length ≤ b then count ++ List.replicate (b - count.length + 1) 0 else count
noncomputable def bump (count : List Int) (b : Nat) : List Int := (grow count b).set b ((grow count b).getD b 0 + 1)
noncomputable def scan : List Nat → WS → WS
  | [], x => x
  | c :: r, x => if c = 32 then scan r ⟨x.count, x.b + 1, x.n + 1, x.nt⟩ else if c = 9 then scan r ⟨bump x.count x.b, 0, x.n + 1, x.nt + 1⟩ else x
theorem grow_lt (count : List Int) (b : Nat) : b < (grow count b).length := by
  unfold grow
  split
  · rw [List.length_append, List.length_replicate]; omega
  · omega
theorem grow_le (count : List Int) (b : Nat) : (grow count b).length ≤ max count.length (b + 1) := by
  unfold grow
  split
  · rw [List.length_append, List.length_replicate]; omega
  · omega
theorem ints_append' {vs ws : List Value} {ns ms : List Int} (x : IntsAre vs ns) (y : IntsAre ws ms) : IntsAre (vs ++ ws) (ns ++ ms) := by
  induction x with
  | nil => exact y
  | cons n t _ ih => exact .cons n t ih
theorem ints_rep (n : Int) (t : Tok) : ∀ k : Nat, IntsAre (List.replicate k (Value.int n t)) (List.replicate k n)
  | 0 => .nil
  | k + 1 => .cons n t (ints_rep n t k)

/-- a Whitespace's objects -/
noncomputable abbrev WsLed (w : World) (a da nm tc : Addr) (x : Str) (z : WS) (vs : List Value) (k0 k1 k2 k3 k4 t1 t2 t3 t4 : Tok) : List (Addr × Obj) :=
  [(nm, { cls := .type "tuple", data := .seq #[.ref tc, .int (z.b : Int) t1] }), (tc, { cls := .type "tuple", data := .seq vs.toArray }), (a, instObj 115 da),
   (da, W.dictOf [{ hash := PyData.keyHash w.params (Str.ofString "raw"), key := .str (Str.ofString "raw") k0, val := .str x t2 },
     { hash := PyData.keyHash w.params (Str.ofString "n"), key := .str (Str.ofString "n") k1, val := .int (z.n : Int) t3 },
     { hash := PyData.keyHash w.params (Str.ofString "nt"), key := .str (Str.ofString "nt") k2, val := .int (z.nt : Int) t4 },
     { hash := PyData.keyHash w.params (Str.ofString "norm"), key := .str (Str.ofString "norm") k3, val := .ref nm },
     { hash := PyData.keyHash w.params (Str.ofString "is_simple"), key := .str (Str.ofString "is_simple") k4, val := .bool (decide ((z.count.length : Int) ≤ 1)) }] 5)]
theorem pick4 {g h : Heap} {L : Addr} {p q r i c a d : Addr × Obj} (N : News g L h [p, q, r, i, c, a, d]) : News g L h [p, i, a, d] := by
  intro x hx
  refine N x ?_
  simp only [List.mem_cons, List.not_mem_nil, or_false] at hx ⊢
  rcases hx with rfl | rfl | rfl | rfl <;> simp
theorem swap01 {g h : Heap} {L : Addr} {p q : Addr × Obj} {r : List (Addr × Obj)} (N : News g L h (p :: q :: r)) : News g L h (q :: p :: r) := by
  intro x hx
  rcases List.mem_cons.mp hx with rfl | hx
  · exact N _ (.tail _ (.head _))
  · rcases List.mem_cons.mp hx with rfl | hx
    · exact N _ (.head _)
    · exact N _ (.tail _ (.tail _ hx))
theorem ws_led {g₀ g h : Heap} {L : Addr} {p q r a d : Addr × Obj} (hk : Keep g₀ g) (N : News g L h [p, q, r, a, d]) : ∀ x ∈ [p, q, a, d], h.get? x.1 = some x.2 ∧ g₀.get? x.1 = none := by
  intro x hx
  have hx' : x ∈ [p, q, r, a, d] := by
    simp only [List.mem_cons, List.not_mem_nil, or_false] at hx ⊢
    rcases hx with rfl | rfl | rfl | rfl <;> simp
  exact ⟨(N x hx').1, kts_none hk (N x hx').2.2⟩
theorem init_names {w : World} {g h : Heap} {L c0 D a da : Addr} {tk : Tok} {o : Obj} {v : Value} (N : News g L h [(c0, W.listOf #[] 0), (D, o), (a, instObj 115 da), (da, W.dictOf [{ hash := PyData.keyHash w.params (Str.ofString "raw"), key := Value.str (Str.ofString "raw") tk, val := v }] 1)]) :
    ∃ c1 tk0, c1 = c0 ∧ News g L h [(c1, W.listOf #[] 0), (a, instObj 115 da), (da, W.dictOf [{ hash := PyData.keyHash w.params (Str.ofString "raw"), key := Value.str (Str.ofString "raw") tk0, val := v }] 1)] := by
  refine ⟨c0, tk, rfl, ?_⟩
  intro q hq
  rcases List.mem_cons.mp hq with rfl | hq
  · exact N _ (.head _)
  · exact N _ (.tail _ (.tail _ hq))

theorem init_code {prog : Program} {w : World} {A : Around} {s : Shared} {g₀ : Heap} {a da : Addr} {x : List Nat} {t1 : Tok} {R : Result → Shared → Prop} (C : Cx w A g₀) (hk : Keep g₀ s.heap)
    (hl : ∀ q ∈ [(a, instObj 115 da), (da, emptyDict)], s.heap.get? q.1 = some q.2 ∧ g₀.get? q.1 = none) (hr : Rm A 1) (ht : 1 ≤ s.toks) (hlen : x.length ≤ 10000) (hda : @LT.lt Nat _ da a)
    (k : ∀ h' tk' nm tc vs k0 k1 k2 k3 k4 t1 t2 t3 t4, Keep g₀ h' → (∀ q ∈ WsLed w a da nm tc (S x) (scan x ⟨[], 0, 0, 0⟩) vs k0 k1 k2 k3 k4 t1 t2 t3 t4, h'.get? q.1 = some q.2 ∧ g₀.get? q.1 = none) → IntsAre vs (scan x ⟨[], 0, 0, 0⟩).count → R (.ok (.ret .none)) { s with heap := h', toks := tk' }) :
    codeAny (model prog w) A (.call (.ref 70) ⟨[.ref a, .str (S x) t1], []⟩) R s := by
  refine codeN (binds := [("self", .ref a), ("ws", .str (S x) t1)]) C hk hl (by k_is) (by k_is) (by have := hr.d; omega) (BindsTo.of_eq rfl) (locs rfl) (by decide) rfl rfl rfl ?_
  intro g L h₁ base fr p loose mean mg mb Q hkg hg F N B X T ret
  have hh0 := C.hh
  clear C
  walk_at "my go"
  (rename Fr _ _ _ _ => F1)
  (rename News _ _ _ _ => N1)
  refine unpackItemsN_ F1 N1 (News.isTup N1 (.head _)) hh0 (by rfl) ?_
  clear F1 N1
  intro h2 F2 N2
  walk_at "my go"
  (rename Fr _ _ _ _ => F3)
  (rename News _ _ _ _ => N3)
  obtain ⟨cnt0, tk0, hc0, N4⟩ := init_names N3
  subst hc0
  have hc1 : @LT.lt Nat _ a cnt0 := by omega
  clear N3
  refine cutN (fun h' => ∃ m' cnt vs nl z t4 t5 t6, Fr g L h' m' ∧ News g L h' [(cnt, W.listOf (List.toArray vs) nl), (a, instObj 115 da), (da, W.dictOf [{ hash := PyData.keyHash w.params (Str.ofString "raw"), key := Value.str (Str.ofString "raw") tk0, val := Value.str (S x) t1 }] 1)] ∧
    IntsAre vs z.count ∧ m' "self" = some (.ref a) ∧ m' "count" = some (.ref cnt) ∧ m' "b" = some (.int (z.b : Int) t4) ∧ m' "n" = some (.int (z.n : Int) t5) ∧ m' "nt" = some (.int (z.nt : Int) t6) ∧ z = scan x ⟨[], 0, 0, 0⟩ ∧ @LT.lt Nat _ a cnt ∧ z.count.length ≤ 20000) ?loop ?after
  case after =>
    rintro h' tk' htk' ⟨m', cnt, vs, nl, z, t4, t5, t6, F', N', hi, e1, e2, e3, e4, e5, hz, hlt, hcl⟩
    refine fun _ => ?_
    have F' := fr_say F' (x := "self") (v := .ref a) (by simp +decide [e1])
    have F' := fr_say F' (x := "count") (v := .ref cnt) (by simp +decide [e2])
    have F' := fr_say F' (x := "b") (v := .int (z.b : Int) t4) (by simp +decide [e3])
    have F' := fr_say F' (x := "n") (v := .int (z.n : Int) t5) (by simp +decide [e4])
    have F' := fr_say F' (x := "nt") (v := .int (z.nt : Int) t6) (by simp +decide [e5])
    have hlt2 : @LT.lt Nat _ da cnt := Nat.lt_trans hda hlt
    clear F3 N4
    dsimp only
    walk_at "my go"
    (rename News _ _ _ _ => N6)
    have hx1 : @Ne Nat _ da := news_ne N6 (.tail _ (.head _)) (.tail _ (.tail _ (.tail _ (.tail _ (.head _))))) tup_ne_dict
    walk_at "my go"
    refine len_list (News.isList (by assumption) (.tail _ (.tail _ (.head _)))) (by rw [List.size_toArray, hi.length]; omega) ?_
    rw [List.size_toArray, hi.length]
    walk_at "my go"
    (rename Fr _ _ _ _ => F7)
    (rename News _ _ _ _ => N7)
    subst hz
    refine ret _ _ (k _ _ _ _ vs _ _ _ _ _ _ _ _ _ (fun b o e => F7.keep _ _ (hkg _ _ e)) (ws_led hkg N7) hi)
  case loop =>
    refine forT (by walk_at "my tok") ?_
    walk_at "my go"
    (rename Fr _ _ _ _ => F5)
    (rename News _ _ _ _ => N5)
    refine iterStr (fun i m news => ∃ cnt vs nl z t4 t5 t6, news = [(cnt, W.listOf (List.toArray vs) nl), (a, instObj 115 da), (da, W.dictOf [{ hash := PyData.keyHash w.params (Str.ofString "raw"), key := Value.str (Str.ofString "raw") tk0, val := Value.str (S x) t1 }] 1)] ∧
        IntsAre vs z.count ∧ m "self" = some (.ref a) ∧ m "S" = some (.str (Str.ofString " ") 258) ∧ m "T" = some (.str (Str.ofString "\t") 259) ∧ m "count" = some (.ref cnt) ∧ m "b" = some (.int (z.b : Int) t4) ∧ m "n" = some (.int (z.n : Int) t5) ∧ m "nt" = some (.int (z.nt : Int) t6) ∧
        scan (x.drop i) z = scan x ⟨[], 0, 0, 0⟩ ∧ @LT.lt Nat _ a cnt ∧ z.count.length ≤ i + 1 ∧ z.b ≤ i)
      hh0 rfl rfl F5 N5 (by walk_at "my tok") ⟨cnt0, [], 0, ⟨[], 0, 0, 0⟩, _, _, _, rfl, .nil, rfl, rfl, rfl, rfl, rfl, rfl, rfl, rfl, hc1, by simp, by simp⟩ ?turn ?done
    case done =>
      rintro h tk m₁ news₁ htk F N ⟨cnt, vs, nl, z, t4, t5, t6, rfl, hi, e1, e2, e3, e4, e5, e6, e7, hz, hlt, hcl, hb⟩
      refine On.mk' htk ⟨m₁, cnt, vs, nl, z, t4, t5, t6, F, N, hi, e1, e4, e5, e6, e7, ?_, hlt, ?_⟩
      · rw [S_size, List.drop_length, scan] at hz
        exact hz
      · rw [S_size] at hcl; omega
    case turn =>
      rintro i c u m₁ news₁ I oI h tk hci ⟨cnt, vs, nl, z, t4, t5, t6, rfl, hi, e1, e2, e3, e4, e5, e6, e7, hz, hlt, hcl, hb⟩ hI htk F N
      have hi' : x[i]? = some c := by simpa [S] using hci
      have hil : i < x.length := (List.getElem?_eq_some_iff.mp hi').1
      have hdrop : x.drop i = c :: x.drop (i + 1) := by
        obtain ⟨h1, h2⟩ := List.getElem?_eq_some_iff.mp hi'
        rw [← h2]; exact List.drop_eq_getElem_cons h1
      rw [hdrop, scan] at hz
      have hI1 : cnt ≠ I := hI (cnt, _) (.head _)
      have hI2 : a ≠ I := hI (a, _) (.tail _ (.head _))
      have hI3 : da ≠ I := hI (da, _) (.tail _ (.tail _ (.head _)))
      clear hI
      have F := fr_say F (x := "self") (v := .ref a) (by simp +decide [e1])
      have F := fr_say F (x := "S") (v := .str (Str.ofString " ") 258) (by simp +decide [e2])
      have F := fr_say F (x := "T") (v := .str (Str.ofString "\t") 259) (by simp +decide [e3])
      have F := fr_say F (x := "count") (v := .ref cnt) (by simp +decide [e4])
      have F := fr_say F (x := "b") (v := .int (z.b : Int) t4) (by simp +decide [e5])
      have F := fr_say F (x := "n") (v := .int (z.n : Int) t5) (by simp +decide [e6])
      have F := fr_say F (x := "nt") (v := .int (z.nt : Int) t6) (by simp +decide [e7])
      have es : (Str.ofString " " : Str) = S [32] := by decide +kernel
      have et : (Str.ofString "\t" : Str) = S [9] := by decide +kernel
      walk_at "my go"
      · (rename (_ == _) = true => hq)
        (rename Fr _ _ _ _ => F6)
        (rename News _ _ _ _ => N6)
        have hc : c = 32 := by
          have hq' : (S [c] == S [32]) = true := es ▸ hq
          rw [S_eqb] at hq'
          simpa using hq'
        rw [if_pos hc] at hz
        refine TurnE.next (news' := [(cnt, _), (a, _), (da, _)]) F6 N6 ?_ ⟨cnt, vs, nl, ⟨z.count, z.b + 1, z.n + 1, z.nt⟩, _, _, _, rfl, hi, rfl, rfl, rfl, rfl, some_intE rfl (by rfl), some_intE rfl (by rfl), rfl, hz, hlt, ?_, ?_⟩
        · intro p hp
          rcases List.mem_cons.mp hp with rfl | hp
          · exact hI1
          · rcases List.mem_cons.mp hp with rfl | hp
            · exact hI2
            · rcases List.mem_cons.mp hp with rfl | hp
              · exact hI3
              · cases hp
        · show z.count.length ≤ _; omega
        · show z.b + 1 ≤ _; omega
      · (rename (_ == _) = true => hq9)
        (rename (_ == _) = false => hq)
        have hc : ¬ c = 32 := by
          have hq' : (S [c] == S [32]) = false := es ▸ hq
          rw [S_eqb] at hq'
          simpa using hq'
        have hc9 : c = 9 := by
          have hq' : (S [c] == S [9]) = true := et ▸ hq9
          rw [S_eqb] at hq'
          simpa using hq'
        rw [if_neg hc, if_pos hc9] at hz
        (rename Fr _ _ _ _ => F6)
        (rename News _ _ _ _ => N6)
        refine cutN (fun h' => ∃ cnt' vs' nl', Fr g L h' (fun y => if y = "count" then some (.ref cnt') else mapOf F6 y) ∧ News g L h' [(cnt', W.listOf (List.toArray vs') nl'), (I, oI), (a, instObj 115 da), (da, W.dictOf [{ hash := PyData.keyHash w.params (Str.ofString "raw"), key := Value.str (Str.ofString "raw") tk0, val := Value.str (S x) t1 }] 1)] ∧
          IntsAre vs' (grow z.count z.b) ∧ @LT.lt Nat _ a cnt' ∧ cnt' ≠ I) ?grown ?rest
        case grown =>
          refine wpAny_If ?_
          walk_at "my go"
          refine len_list (News.isList N6 (.tail _ (.head _))) (by rw [List.size_toArray, hi.length]; omega) ?_
          rw [List.size_toArray, hi.length]
          walk_at "my go"
          · (rename (_ : Int) ≤ _ => hle)
            (rename Fr _ _ _ _ => F7)
            (rename News _ _ _ _ => N7)
            refine len_list (News.isList N7 (.tail _ (.tail _ (.head _)))) (by rw [List.size_toArray, hi.length]; omega) ?_
            rw [List.size_toArray, hi.length]
            walk_at "my go"
            (rename Fr _ _ _ _ => F8)
            (rename News _ _ _ _ => N8)
            refine mulZ (k := z.b - z.count.length + 1) F8 N8 (.head _) (by omega) (by omega) ?_
            clear F8 N8
            intro D9 h9 F9 N9
            refine addLt F9 N9 (News.isList N9 (.tail _ (.tail _ (.tail _ (.head _))))) (News.isList N9 (.head _)) (by rw [hi.length, List.length_replicate, sizeLine_eq]; omega) ?_
            intro D10 h10 F10 N10 hlt10
            walk_at "my go"
            (rename Fr _ _ _ _ => F11)
            (rename News _ _ _ _ => N11)
            have g1 : @LT.lt Nat _ a D10 := hlt10 (a, instObj 115 da) (by simp)
            have g2 : @LT.lt Nat _ I D10 := hlt10 (I, oI) (by simp)
            refine On.mk' (by walk_at "my tok") ⟨D10, _, _, F11, pick4 N11, ?_, g1, fun e => absurd g2 (e ▸ Nat.lt_irrefl _)⟩
            rw [grow, if_pos (by omega)]
            exact ints_append' hi (ints_rep _ _ _)
          · (rename ¬ (_ : Int) ≤ _ => hle)
            (rename Fr _ _ _ _ => F7)
            (rename News _ _ _ _ => N7)
            refine On.mk' (by walk_at "my tok") ⟨cnt, vs, nl, ?_, ?_, ?_, hlt, hI1⟩
            · exact fr_say F7 rfl
            · intro q hq
              rcases List.mem_cons.mp hq with rfl | hq
              · exact N7 _ (by simp)
              · rcases List.mem_cons.mp hq with rfl | hq
                · exact N7 _ (by simp)
                · exact N7 _ (by simp at hq ⊢; rcases hq with rfl | rfl <;> simp)
            · rw [grow, if_neg (by omega)]
              exact hi
        case rest =>
          rintro h8 tk8 htk8 ⟨cnt', vs', nl', F8, N8, hi8, hlt8, hnI8⟩
          refine fun _ => ?_
          dsimp only [mapOf] at F8
          dsimp only
          have hbl := grow_lt z.count z.b
          walk_at "my go"
          (rename Fr _ _ _ _ => F7)
          (rename News _ _ _ _ => N7)
          refine ksa_sub N7 (.head _) hi8 (by omega) (by omega) (by omega) ?_
          intro t9
          rw [Int.toNat_natCast]
          walk_at "my go"
          (rename Fr _ _ _ _ => F9)
          (rename News _ _ _ _ => N9)
          refine ksa_set F9 N9 (.head ?ne) hi8 (by omega) (by omega) (by omega) ?_
          case ne =>
            intro p hp
            rcases List.mem_cons.mp hp with rfl | hp
            · exact fun e => hnI8 e.symm
            · rcases List.mem_cons.mp hp with rfl | hp
              · exact fun e => absurd hlt8 (e ▸ Nat.lt_irrefl _)
              · rcases List.mem_cons.mp hp with rfl | hp
                · exact fun e => absurd (Nat.lt_trans hda hlt8) (e ▸ Nat.lt_irrefl _)
                · cases hp
          intro h10 F10 N10 hi10 _ _
          rw [Int.toNat_natCast] at hi10 N10
          walk_at "my go"
          (rename Fr _ _ _ _ => F11)
          (rename News _ _ _ _ => N11)
          have hgl := grow_le z.count z.b
          refine TurnE.next (news' := [(cnt', _), (a, _), (da, _)]) F11 (swap01 N11) ?_ ⟨cnt', _, nl', ⟨bump z.count z.b, 0, z.n + 1, z.nt + 1⟩, _, _, _, rfl, hi10, rfl, rfl, rfl, rfl, some_intE rfl (by rfl), some_intE rfl (by rfl), some_intE rfl (by rfl), hz, hlt8, ?_, ?_⟩
          · intro p hp
            rcases List.mem_cons.mp hp with rfl | hp
            · exact hnI8
            · rcases List.mem_cons.mp hp with rfl | hp
              · exact hI2
              · rcases List.mem_cons.mp hp with rfl | hp
                · exact hI3
                · cases hp
          · show (bump z.count z.b).length ≤ _
            rw [bump, List.length_set]; omega
          · show 0 ≤ _; omega
      · (rename (_ == Str.ofString "\t") = false => hq9)
        (rename (_ == Str.ofString " ") = false => hq)
        have hc : ¬ c = 32 := by
          have hq' : (S [c] == S [32]) = false := es ▸ hq
          rw [S_eqb] at hq'
          simpa using hq'
        have hc9 : ¬ c = 9 := by
          have hq' : (S [c] == S [9]) = false := et ▸ hq9
          rw [S_eqb] at hq'
          simpa using hq'
        rw [if_neg hc, if_neg hc9] at hz
        refine On.mk' (by walk_at "my tok") ⟨_, cnt, vs, nl, z, t4, t5, t6, F, fun q hq => N q (.tail _ hq), hi, rfl, rfl, rfl, rfl, rfl, hz, hlt, by omega⟩
end Mine
end
end
end
end
-- MD
section
open PySem PySem.W PyProof.Rows PySem.Calls
set_option maxRecDepth 100000
set_option linter.unusedVariables false
namespace Mine

/-- where a body runs -/
structure Fc where
  prog : Program
  w : World
  A : Around
  cn : Str
  cs : Scope
  L : Addr
  a : Addr
  ccd : Value
  gens : Array GenState
  drawn : Drawn
  os : OsState
  g : Heap
noncomputable abbrev Fc.env (C : Fc) : Env := envOf C.cn C.cs C.L C.a C.ccd
noncomputable abbrev Fc.M (C : Fc) : Model := model C.prog C.w
noncomputable abbrev Fc.In (C : Fc) : Around := C.A.deeper C.env
noncomputable abbrev Fc.st (C : Fc) (h : Heap) (tk : Nat) : Shared := ⟨h, C.gens, C.drawn, tk, C.os⟩
noncomputable abbrev Mp := Str → Option Value
noncomputable abbrev Led := List (Addr × Obj)
noncomputable abbrev upd (m : Mp) (x : Str) (v : Value) : Mp := fun y => if y = x then some v else m y
noncomputable def Dis (n : Led) : Prop := n.Pairwise fun p q => p.1 ≠ q.1
theorem Dis.nil : Dis [] := List.Pairwise.nil
theorem Dis.cons {p : Addr × Obj} {n : Led} (h : ∀ q ∈ n, q.1 ≠ p.1) (d : Dis n) : Dis (p :: n) := List.pairwise_cons.mpr ⟨fun q hq e => h q hq e.symm, d⟩
theorem Dis.tail {p : Addr × Obj} {n : Led} (d : Dis (p :: n)) : Dis n := (List.pairwise_cons.mp d).2
theorem Dis.head {p : Addr × Obj} {n : Led} (d : Dis (p :: n)) : ∀ q ∈ n, q.1 ≠ p.1 := fun q hq e => (List.pairwise_cons.mp d).1 q hq e.symm
theorem Dis.app {n n' : Led} (a : Dis n) (b : Dis n') (h : ∀ p ∈ n, ∀ q ∈ n', q.1 ≠ p.1) : Dis (n ++ n') := List.pairwise_append.mpr ⟨a, b, fun p hp q hq e => h p hp q hq e.symm⟩
theorem Upd.dis {a : Addr} {o o' : Obj} {n n' : Led} (u : Upd a o o' n n') (d : Dis n) : Dis n' := by
  have fst : ∀ {n n' : Led}, Upd a o o' n n' → n'.map (·.1) = n.map (·.1) := fun u => by
    induction u with
    | head => rfl
    | tail _ _ ih => rw [List.map_cons, List.map_cons, ih]
  have e : ∀ n : Led, Dis n ↔ (n.map (·.1)).Pairwise (· ≠ ·) := fun n => List.pairwise_map.symm
  rw [e, fst u, ← e]; exact d
theorem upd_at {a : Addr} {o o' : Obj} : ∀ (pre : Led) {post : Led}, Dis (pre ++ (a, o) :: post) → Upd a o o' (pre ++ (a, o) :: post) (pre ++ (a, o') :: post)
  | [], post, d => .head d.head
  | p :: r, post, d => .tail (fun e => (List.pairwise_cons.mp d).1 (a, o) (by simp) e) (upd_at r d.tail)

/-- the frame and the ledger stand -/
structure Hd (C : Fc) (m : Mp) (n : Led) (h : Heap) : Prop where
  F : Fr C.g C.L h m
  N : News C.g C.L h n
  D : Dis n
/-- a local name; a name of the top -/
noncomputable def Loc (C : Fc) (x : Str) : Prop := C.cs.kind = .function ∧ C.env.kindOf x = some .local ∧ (x == ("__debug__" : Str)) = false
noncomputable def Glb (C : Fc) (x : Str) : Prop := C.cs.kind = .function ∧ C.env.kindOf x = some .globalImplicit ∧ (x == ("__debug__" : Str)) = false
noncomputable def locIn (l : List (Str × NameKind)) (x : Str) : Bool := (match l.lookup x with | some .local => true | _ => false) && !(x == ("__debug__" : Str))
noncomputable def glbIn (l : List (Str × NameKind)) (x : Str) : Bool := (match l.lookup x with | some .globalImplicit => true | _ => false) && !(x == ("__debug__" : Str))

noncomputable def IsI (n : Int) (v : Value) : Prop := ∃ t, v = .int n t
noncomputable def IsS (l : List Nat) (v : Value) : Prop := ∃ t, v = .str (S l) t
noncomputable def IsB (b : Bool) (v : Value) : Prop := v = .bool b
noncomputable def Is (u v : Value) : Prop := v = u
theorem IsI.of {n k : Int} {v : Value} (h : IsI n v) (e : n = k) : IsI k v := e ▸ h
theorem IsS.of {l l' : List Nat} {v : Value} (h : IsS l v) (e : l = l') : IsS l' v := e ▸ h

/-- behind an expression -/
noncomputable def Post (C : Fc) (m : Mp) (R : Led → Value → Prop) (v : Value) (s : Shared) : Prop := ∃ h tk n', 1 ≤ tk ∧ s = C.st h tk ∧ Hd C m n' h ∧ R n' v
noncomputable abbrev NoE : Value → Shared → Prop := fun _ _ => False
/-- e gives a value, the ledger may grow: R of both -/
noncomputable def EvL (C : Fc) (m : Mp) (n : Led) (e : Expr) (R : Led → Value → Prop) : Prop := ∀ h tk, 1 ≤ tk → Hd C m n h → wpAny C.M C.In (eval e C.env) (Post C m R) NoE (C.st h tk)
noncomputable abbrev same (n : Led) (P : Value → Prop) (n' : Led) (v : Value) : Prop := n' = n ∧ P v
/-- e gives a value of which P holds; the frame and the ledger stay -/
noncomputable abbrev Ev (C : Fc) (m : Mp) (n : Led) (e : Expr) (P : Value → Prop) : Prop := EvL C m n e (same n P)
/-- a test's answer -/
noncomputable def PostB (C : Fc) (m : Mp) (n : Led) (c : Prop) (b : Bool) (s : Shared) : Prop := ∃ h tk, 1 ≤ tk ∧ s = C.st h tk ∧ Hd C m n h ∧ (b = true ↔ c)
noncomputable def Tst (C : Fc) (m : Mp) (n : Led) (e : Expr) (c : Prop) : Prop := ∀ h tk, 1 ≤ tk → Hd C m n h → wpAny C.M C.In (isTrue e C.env (eval e C.env)) (PostB C m n c) NoE (C.st h tk)
/-- arguments -/
noncomputable def PostA (C : Fc) (m : Mp) (R : Led → List Value → Prop) (vs : List Value) (s : Shared) : Prop := ∃ h tk n', 1 ≤ tk ∧ s = C.st h tk ∧ Hd C m n' h ∧ R n' vs
noncomputable def Ars (C : Fc) (m : Mp) (n : Led) (es : List Expr) (R : Led → List Value → Prop) : Prop := ∀ p h tk, 1 ≤ tk → Hd C m n h → wpAny C.M C.In (spliced (backTo p (starEach es C.env))) (PostA C m R) NoE (C.st h tk)
/-- statements: Q of how they end -/
noncomputable def Run (C : Fc) (m : Mp) (n : Led) (b : List Stmt) (Q : Flow → Shared → Prop) : Prop := ∀ h tk, 1 ≤ tk → Hd C m n h → wpAny C.M C.In (execs b C.env) Q NoE (C.st h tk)
/-- what stands behind a block: it goes on with b -/
noncomputable def Beh (C : Fc) (b : List Stmt) (Q : Flow → Shared → Prop) (f : Flow) (s : Shared) : Prop :=
  match f with
  | .next => 1 ≤ s.toks → wpAny C.M C.In (execs b C.env) Q NoE s
  | f => Q f s

section
variable {C : Fc} {m : Mp} {n : Led} {P P1 P2 P3 : Value → Prop} {R R1 R2 : Led → Value → Prop} {Q : Flow → Shared → Prop}

theorem pl {t : Sem Value} {E : Value → Shared → Prop} {s : Shared} {Q' : Value → Shared → Prop} (h : wpAny C.M C.In t (Post C m R) NoE s) (k : ∀ v h tk n', 1 ≤ tk → Hd C m n' h → R n' v → Q' v (C.st h tk)) : wpAny C.M C.In t Q' E s :=
  wpAny_mono h (fun v s' ⟨h', tk, n', ht, e, H, p⟩ => by subst e; exact k v h' tk n' ht H p) fun _ _ x => x.elim
theorem pb {t : Sem Value} {E : Value → Shared → Prop} {s : Shared} {Q' : Value → Shared → Prop} (h : wpAny C.M C.In t (Post C m (same n P)) NoE s) (k : ∀ v h tk, 1 ≤ tk → Hd C m n h → P v → Q' v (C.st h tk)) : wpAny C.M C.In t Q' E s :=
  pl h fun v h tk n' ht H ⟨e, p⟩ => k v h tk ht (e ▸ H) p
theorem pa {t : Sem (List Value)} {E : Value → Shared → Prop} {s : Shared} {Q' : List Value → Shared → Prop} {R : Led → List Value → Prop} (h : wpAny C.M C.In t (PostA C m R) NoE s) (k : ∀ v h tk n', 1 ≤ tk → Hd C m n' h → R n' v → Q' v (C.st h tk)) : wpAny C.M C.In t Q' E s :=
  wpAny_mono h (fun v s' ⟨h', tk, n', ht, e, H, p⟩ => by subst e; exact k v h' tk n' ht H p) fun _ _ x => x.elim
theorem bb {t : Sem Bool} {c : Prop} {E : Value → Shared → Prop} {s : Shared} {Q' : Bool → Shared → Prop} (h : wpAny C.M C.In t (PostB C m n c) NoE s) (k : ∀ b h tk, 1 ≤ tk → Hd C m n h → (b = true ↔ c) → Q' b (C.st h tk)) : wpAny C.M C.In t Q' E s :=
  wpAny_mono h (fun v s' ⟨h', tk, ht, e, H, p⟩ => by subst e; exact k v h' tk ht H p) fun _ _ x => x.elim
theorem Post.mk {v : Value} {h : Heap} {tk : Nat} (ht : 1 ≤ tk) (H : Hd C m n h) (p : P v) : Post C m (same n P) v (C.st h tk) := ⟨h, tk, n, ht, rfl, H, rfl, p⟩
theorem Post.mkL {v : Value} {h : Heap} {tk : Nat} {n' : Led} (ht : 1 ≤ tk) (H : Hd C m n' h) (p : R n' v) : Post C m R v (C.st h tk) := ⟨h, tk, n', ht, rfl, H, p⟩
theorem le1 {k j : Nat} : 1 ≤ k + j + 1 := Nat.le_add_left 1 _

theorem EvL.weak {e : Expr} (x : EvL C m n e R) (k : ∀ n' v, R n' v → R1 n' v) : EvL C m n e R1 := fun h tk ht H => pl (x h tk ht H) fun v h tk n' ht H p => .mkL ht H (k n' v p)
theorem Ev.weak {e : Expr} (x : Ev C m n e P) (k : ∀ v, P v → P1 v) : Ev C m n e P1 := EvL.weak x fun _ v ⟨e, p⟩ => ⟨e, k v p⟩
/-- a fact of every heap where the ledger stands -/
theorem Run.have {b : List Stmt} {φ : Prop} (f : ∀ h, Hd C m n h → φ) (k : φ → Run C m n b Q) : Run C m n b Q := fun h tk ht H => k (f h H) h tk ht H
theorem EvL.have {e : Expr} {φ : Prop} (f : ∀ h, Hd C m n h → φ) (k : φ → EvL C m n e R) : EvL C m n e R := fun h tk ht H => k (f h H) h tk ht H
theorem Run.dis {b : List Stmt} (k : Dis n → Run C m n b Q) : Run C m n b Q := .have (fun _ H => H.D) k

theorem Ev.name {x : Str} {p : Pos} {v : Value} (hL : Loc C x) (hm : m x = some v) (hP : P v) : Ev C m n (.Name x p) P := fun h tk ht H =>
  ld H.F hm (.mk ht H hP) hL.1 hL.2.1 hL.2.2
theorem Ev.int {i : Int} {k : Nat} {p : Pos} : Ev C m n (.Constant (.int i) k p) (IsI i) := fun h tk ht H => wpAny_Constant_int (.mk (Nat.le_add_left 1 _) H ⟨_, rfl⟩)
theorem Ev.str {x : Str} {l : List Nat} {k : Nat} {p : Pos} (e : x = S l) : Ev C m n (.Constant (.str x) k p) (IsS l) := fun h tk ht H => Constant_str (.mk (Nat.le_add_left 1 _) H ⟨_, congrArg (fun z => Value.str z _) e⟩)
theorem Ev.bin {l r : Expr} {op : Operator} {p : Pos} (hl : EvL C m n l R1) (hr : ∀ n' a, R1 n' a → EvL C m n' r (R2)) 
    (k : ∀ a b h tk n' n'', R1 n' a → R2 n'' b → 1 ≤ tk → Hd C m n'' h → wpAny C.M C.In (binaryOp op a b) (Post C m R) NoE (C.st h tk)) : EvL C m n (.BinOp l op r p) R := fun h tk ht H =>
  wpAny_BinOp (pl (hl h tk ht H) fun a h tk n' ht H qa => pl (hr n' a qa h tk ht H) fun b h tk n'' ht H qb => k a b h tk n' n'' qa qb ht H)
theorem Ev.binP {l r : Expr} {op : Operator} {p : Pos} (hl : Ev C m n l P1) (hr : Ev C m n r P2)
    (k : ∀ a b h tk, P1 a → P2 b → 1 ≤ tk → Hd C m n h → wpAny C.M C.In (binaryOp op a b) (Post C m R) NoE (C.st h tk)) : EvL C m n (.BinOp l op r p) R := fun h tk ht H =>
  wpAny_BinOp (pb (hl h tk ht H) fun a h tk ht H qa => pb (hr h tk ht H) fun b h tk ht H qb => k a b h tk qa qb ht H)
theorem Ev.addI {l r : Expr} {p : Pos} {a b : Int} (hl : Ev C m n l (IsI a)) (hr : Ev C m n r (IsI b)) : Ev C m n (.BinOp l .Add r p) (IsI (a + b)) :=
  .binP hl hr fun _ _ h tk ⟨t, ea⟩ ⟨u, eb⟩ ht H => by subst ea eb; exact add_int (.mk (Nat.le_add_left 1 _) H ⟨_, rfl⟩)
theorem Ev.subI {l r : Expr} {p : Pos} {a b : Int} (hl : Ev C m n l (IsI a)) (hr : Ev C m n r (IsI b)) : Ev C m n (.BinOp l .Sub r p) (IsI (a - b)) :=
  .binP hl hr fun _ _ h tk ⟨t, ea⟩ ⟨u, eb⟩ ht H => by subst ea eb; exact sub_int (.mk (Nat.le_add_left 1 _) H ⟨_, rfl⟩)
theorem Ev.modI {l r : Expr} {p : Pos} {a b : Int} (hl : Ev C m n l (IsI a)) (hr : Ev C m n r (IsI b)) (h0 : b ≠ 0) : Ev C m n (.BinOp l .Mod r p) (IsI (a.fmod b)) :=
  .binP hl hr fun _ _ h tk ⟨t, ea⟩ ⟨u, eb⟩ ht H => by subst ea eb; exact mod_int' h0 (.mk (Nat.le_add_left 1 _) H ⟨_, rfl⟩)
theorem Ev.modN {l r : Expr} {p : Pos} {a b : Nat} (hl : Ev C m n l (IsI a)) (hr : Ev C m n r (IsI b)) (h0 : b ≠ 0) : Ev C m n (.BinOp l .Mod r p) (IsI ((a % b : Nat) : Int)) :=
  (Ev.modI hl hr (by omega)).weak fun _ h => h.of (fmod_nat a b)
theorem Ev.divN {l r : Expr} {p : Pos} {a b : Nat} (hl : Ev C m n l (IsI a)) (hr : Ev C m n r (IsI b)) (h0 : b ≠ 0) (hb : b < 1073741824) : Ev C m n (.BinOp l .FloorDiv r p) (IsI ((a / b : Nat) : Int)) :=
  .binP hl hr fun _ _ h tk ⟨t, ea⟩ ⟨u, eb⟩ ht H => by
    subst ea eb
    exact floordiv_int (by omega) (.mk (Nat.le_add_left 1 _) H ⟨_, congrArg (fun z => Value.int z _) (fdiv_nat a b)⟩) (.inl (PyProof.noPylong_small (by omega)))
theorem Ev.negI {x : Expr} {p : Pos} {a : Int} (hx : Ev C m n x (IsI a)) : Ev C m n (.UnaryOp .USub x p) (IsI (-a)) := fun h tk ht H =>
  UnaryOp_ (pb (hx h tk ht H) fun v h tk ht H ⟨t, e⟩ => by subst e; exact neg_int (.mk (Nat.le_add_left 1 _) H ⟨_, rfl⟩))
theorem Ev.addS {l r : Expr} {p : Pos} {a b : List Nat} (hl : Ev C m n l (IsS a)) (hr : Ev C m n r (IsS b)) (hz : a.length + b.length ≤ 16777216) : Ev C m n (.BinOp l .Add r p) (IsS (a ++ b)) :=
  .binP hl hr fun _ _ h tk ⟨t, ea⟩ ⟨u, eb⟩ ht H => by subst ea eb; exact Mine.addS ht rfl rfl hz fun t' tk' ht' => .mk ht' H ⟨_, rfl⟩

theorem bits_le {a : Nat} (h : a < 2 ^ 64) : Builtin.Int.intBits (a : Int) ≤ 64 := by
  unfold Builtin.Int.intBits
  by_cases h0 : a = 0
  · subst h0; decide
  · have h1 : ((a : Int) == 0) = false := by simpa using h0
    rw [h1, if_neg (by decide), Int.natAbs_natCast]
    have := (Nat.log2_lt h0 (k := 64)).mpr h
    omega
theorem Ev.mulN {l r : Expr} {p : Pos} {a b : Nat} (hl : Ev C m n l (IsI a)) (hr : Ev C m n r (IsI b)) (ha : a < 2 ^ 64) : Ev C m n (.BinOp l .Mult r p) (IsI ((a * b : Nat) : Int)) :=
  .binP hl hr fun _ _ h tk ⟨t, ea⟩ ⟨u, eb⟩ ht H => by
    subst ea eb
    exact PyProof.Rows.mul_int (.mk (Nat.le_add_left 1 _) H ⟨_, congrArg (fun z => Value.int z _) (Int.natCast_mul a b).symm⟩) (.of_left (bits_le ha))

theorem Ev.mulI {l r : Expr} {p : Pos} {a : Nat} {b : Int} (hl : Ev C m n l (IsI a)) (hr : Ev C m n r (IsI b)) (ha : a < 2 ^ 64) : Ev C m n (.BinOp l .Mult r p) (IsI (a * b)) :=
  .binP hl hr fun _ _ h tk ⟨t, ea⟩ ⟨u, eb⟩ ht H => by
    subst ea eb
    exact PyProof.Rows.mul_int (.mk (Nat.le_add_left 1 _) H ⟨_, rfl⟩) (.of_left (bits_le ha))

/-- a test by comparing -/
theorem Tst.cmp {l r : Expr} {op : CmpOp} {p : Pos} {c : Prop} (hl : Ev C m n l P1) (hr : Ev C m n r P2) (hb : behindInMarks op r = false)
    (k : ∀ a b h tk, P1 a → P2 b → 1 ≤ tk → Hd C m n h → wpAny C.M C.In (compareOp op a b) (Post C m (same n fun v => ∃ q : Bool, v = .bool q ∧ (q = true ↔ c))) NoE (C.st h tk)) : Tst C m n (.Compare l [op] [r] p) c := fun h tk ht H =>
  wpAny_isTrue_Compare1 (hm := hb) (pb (hl h tk ht H) fun a h tk ht H qa => pb (hr h tk ht H) fun b h tk ht H qb => pb (k a b h tk qa qb ht H) fun v h tk ht H ⟨q, e, hq⟩ => by
    subst e; exact wpAny_truthy_bool ⟨h, tk, ht, rfl, H, hq⟩)
theorem Tst.ltI {l r : Expr} {p : Pos} {a b : Int} (hl : Ev C m n l (IsI a)) (hr : Ev C m n r (IsI b)) (hb : behindInMarks .Lt r = false := by rfl) : Tst C m n (.Compare l [.Lt] [r] p) (a < b) :=
  .cmp hl hr hb fun _ _ h tk ⟨t, ea⟩ ⟨u, eb⟩ ht H => by subst ea eb; exact lt_int (.mk ht H ⟨_, rfl, decide_eq_true_iff⟩)
theorem Tst.gtI {l r : Expr} {p : Pos} {a b : Int} (hl : Ev C m n l (IsI a)) (hr : Ev C m n r (IsI b)) (hb : behindInMarks .Gt r = false := by rfl) : Tst C m n (.Compare l [.Gt] [r] p) (b < a) :=
  .cmp hl hr hb fun _ _ h tk ⟨t, ea⟩ ⟨u, eb⟩ ht H => by subst ea eb; exact gt_int (.mk ht H ⟨_, rfl, decide_eq_true_iff⟩)
theorem Tst.leI {l r : Expr} {p : Pos} {a b : Int} (hl : Ev C m n l (IsI a)) (hr : Ev C m n r (IsI b)) (hb : behindInMarks .LtE r = false := by rfl) : Tst C m n (.Compare l [.LtE] [r] p) (a ≤ b) :=
  .cmp hl hr hb fun _ _ h tk ⟨t, ea⟩ ⟨u, eb⟩ ht H => by subst ea eb; exact le_int (.mk ht H ⟨_, rfl, decide_eq_true_iff⟩)
theorem Tst.geI {l r : Expr} {p : Pos} {a b : Int} (hl : Ev C m n l (IsI a)) (hr : Ev C m n r (IsI b)) (hb : behindInMarks .GtE r = false := by rfl) : Tst C m n (.Compare l [.GtE] [r] p) (b ≤ a) :=
  .cmp hl hr hb fun _ _ h tk ⟨t, ea⟩ ⟨u, eb⟩ ht H => by subst ea eb; exact ge_int (.mk ht H ⟨_, rfl, decide_eq_true_iff⟩)
theorem Tst.eqI {l r : Expr} {p : Pos} {a b : Int} (hl : Ev C m n l (IsI a)) (hr : Ev C m n r (IsI b)) (hb : behindInMarks .Eq r = false := by rfl) : Tst C m n (.Compare l [.Eq] [r] p) (a = b) :=
  .cmp hl hr hb fun _ _ h tk ⟨t, ea⟩ ⟨u, eb⟩ ht H => by subst ea eb; exact eq_int (.mk ht H ⟨_, rfl, by simp⟩)
theorem Tst.eqS {l r : Expr} {p : Pos} {a b : List Nat} (hl : Ev C m n l (IsS a)) (hr : Ev C m n r (IsS b)) (hb : behindInMarks .Eq r = false := by rfl) : Tst C m n (.Compare l [.Eq] [r] p) (a = b) :=
  .cmp hl hr hb fun _ _ h tk ⟨t, ea⟩ ⟨u, eb⟩ ht H => by subst ea eb; exact eq_str (.mk ht H ⟨_, rfl, by rw [S_eqb]; exact decide_eq_true_iff⟩)
/-- a value's own truth -/
theorem Tst.bool {e : Expr} {b : Bool} (he : Ev C m n e (IsB b)) (hp : ∀ whole, isTrue e C.env whole = (do let v ← whole; standAt e.pos; holding [v] (truthy v)) := by intro _; rfl) : Tst C m n e (b = true) := fun h tk ht H =>
  isTrue_plain (pb (he h tk ht H) fun v h tk ht H e => by subst e; exact wpAny_truthy_bool ⟨h, tk, ht, rfl, H, Iff.rfl⟩) (hp _)
theorem Tst.iff {e : Expr} {c c' : Prop} (h : Tst C m n e c) (i : c ↔ c') : Tst C m n e c' := fun h' tk ht H => bb (h h' tk ht H) fun b h tk ht H hb => ⟨h, tk, ht, rfl, H, hb.trans i⟩
theorem Tst.not {e : Expr} {p : Pos} {c : Prop} (h : Tst C m n e c) : Tst C m n (.UnaryOp .Not e p) (¬ c) := fun h' tk ht H =>
  isTrue_not (bb (h h' tk ht H) fun b h tk ht H hb => ⟨h, tk, ht, rfl, H, by cases b <;> simp_all⟩)
theorem Tst.or2 {a b : Expr} {p : Pos} {ca cb : Prop} (ha : Tst C m n a ca) (hb : ¬ ca → Tst C m n b cb) : Tst C m n (.BoolOp .Or [a, b] p) (ca ∨ cb) := fun h tk ht H =>
  wpAny_isTrue_BoolOp (wpAny_allTrue_Or_cons (bb (ha h tk ht H) fun q h tk ht H hq => by
    cases q with
    | true => exact ⟨h, tk, ht, rfl, H, by simp [hq.mp rfl]⟩
    | false =>
      have hn : ¬ ca := fun x => by have := hq.mpr x; cases this
      exact wpAny_allTrue_Or_cons (bb (hb hn h tk ht H) fun q h tk ht H hq => by
        cases q with
        | true => exact ⟨h, tk, ht, rfl, H, by simp [hq.mp rfl]⟩
        | false => exact wpAny_allTrue_Or_nil ⟨h, tk, ht, rfl, H, by
            have : ¬ cb := fun x => by have := hq.mpr x; cases this
            simp [hn, this]⟩)))
theorem Tst.and2 {a b : Expr} {p : Pos} {ca cb : Prop} (ha : Tst C m n a ca) (hb : ca → Tst C m n b cb) : Tst C m n (.BoolOp .And [a, b] p) (ca ∧ cb) := fun h tk ht H =>
  wpAny_isTrue_BoolOp (wpAny_allTrue_And_cons (bb (ha h tk ht H) fun q h tk ht H hq => by
    cases q with
    | false =>
      have hn : ¬ ca := fun x => by have := hq.mpr x; cases this
      exact ⟨h, tk, ht, rfl, H, by simp [hn]⟩
    | true =>
      have hy : ca := hq.mp rfl
      exact wpAny_allTrue_And_cons (bb (hb hy h tk ht H) fun q h tk ht H hq => by
        cases q with
        | false => exact ⟨h, tk, ht, rfl, H, by
            have : ¬ cb := fun x => by have := hq.mpr x; cases this
            simp [this]⟩
        | true => exact wpAny_allTrue_And_nil ⟨h, tk, ht, rfl, H, by simp [hy, hq.mp rfl]⟩)))
theorem Ev.ite {t b e : Expr} {p : Pos} {c : Prop} (ht : Tst C m n t c) (hb : c → EvL C m n b R) (he : ¬ c → EvL C m n e R) : EvL C m n (.IfExp t b e p) R := fun h tk htk H =>
  IfExp_ (bb (ht h tk htk H) fun q h tk htk H hq => by
    cases q with
    | true => exact hb (hq.mp rfl) h tk htk H
    | false => exact he (fun x => by have := hq.mpr x; cases this) h tk htk H)

/-! arguments -/
theorem Ars.nil {R : Led → List Value → Prop} (k : R n []) : Ars C m n [] R := fun p h tk ht H => args_nil ⟨h, tk, n, ht, rfl, H, k⟩
theorem Ars.cons {e : Expr} {es : List Expr} {R : Led → List Value → Prop} (he : EvL C m n e R1) (k : ∀ n' v, R1 n' v → Ars C m n' es fun n'' vs => R n'' (v :: vs))
    (hs : starEach (e :: es) C.env = (false, eval e C.env) :: starEach es C.env := by rfl) : Ars C m n (e :: es) R := fun p h tk ht H =>
  args_cons (pl (he h tk ht H) fun v h tk n' ht H r => pa (k n' v r p h tk ht H) fun vs h tk n'' ht H r => ⟨h, tk, n'', ht, rfl, H, r⟩) hs
theorem Ars.consP {e : Expr} {es : List Expr} {R : Led → List Value → Prop} (he : Ev C m n e P1) (k : ∀ v, P1 v → Ars C m n es fun n'' vs => R n'' (v :: vs))
    (hs : starEach (e :: es) C.env = (false, eval e C.env) :: starEach es C.env := by rfl) : Ars C m n (e :: es) R :=
  .cons he (fun n' v ⟨e, p⟩ => by subst e; exact k v p) hs
theorem fresh_dis {C : Fc} {m : Mp} {n : Led} {h : Heap} {D : Addr} {o : Obj} (H : Hd C m n h) (l : ∀ p ∈ n, @LT.lt Nat _ p.1 D) : Dis ((D, o) :: n) := .cons (fun q hq e => absurd (l q hq) (e ▸ Nat.lt_irrefl _)) H.D
/-- displays -/
theorem EvL.list {es : List Expr} {p : Pos} {RA : Led → List Value → Prop} (ha : Ars C m n es RA) (k : ∀ n' vs D, RA n' vs → (∀ p ∈ n', p.1 ≠ D) → R ((D, W.listOf vs.toArray 0) :: n') (.ref D)) (hz : ∀ n' vs, RA n' vs → vs.length ≤ sizeLine) : EvL C m n (.List es p) R := fun h tk ht H =>
  List_ (pa (ha p h tk ht H) fun vs h tk n' ht H r => newList_K H.F H.N (fun D h' F N l => .mkL ht ⟨F, N, fresh_dis H l⟩ (k n' vs D r fun q hq e => absurd (l q hq) (e ▸ Nat.lt_irrefl _))) (hz n' vs r))
theorem EvL.tuple {es : List Expr} {p : Pos} {k0 : Nat} {RA : Led → List Value → Prop} (ha : Ars C m n es RA) (k : ∀ n' vs D, RA n' vs → (∀ p ∈ n', p.1 ≠ D) → R ((D, { cls := .type "tuple", data := .seq vs.toArray }) :: n') (.ref D)) (hz : ∀ n' vs, RA n' vs → vs.length ≤ sizeLine) : EvL C m n (.Tuple es k0 p) R := fun h tk ht H =>
  Tuple_ (pa (ha p h tk ht H) fun vs h tk n' ht H r => kup_newTuple H.F H.N (fun D h' F N l => .mkL ht ⟨F, N, fresh_dis H l⟩ (k n' vs D r fun q hq e => absurd (l q hq) (e ▸ Nat.lt_irrefl _))) (hz n' vs r))

/-- the facts of a body -/
structure Bod (C : Fc) (l : List (Str × NameKind)) : Prop where
  cx : Cx C.w C.A C.g
  kind : C.cs.kind = .function
  names : ∀ x, C.env.kindOf x = l.lookup x
theorem Bod.loc {l : List (Str × NameKind)} (B : Bod C l) {x : Str} (e : locIn l x = true) : Loc C x := by
  unfold locIn at e
  rw [Bool.and_eq_true] at e
  refine ⟨B.kind, ?_, by simpa using e.2⟩
  rw [B.names]
  have := e.1
  split at this
  · assumption
  · cases this
theorem Bod.glb {l : List (Str × NameKind)} (B : Bod C l) {x : Str} (e : glbIn l x = true) : Glb C x := by
  unfold glbIn at e
  rw [Bool.and_eq_true] at e
  refine ⟨B.kind, ?_, by simpa using e.2⟩
  rw [B.names]
  have := e.1
  split at this
  · assumption
  · cases this
theorem Bod.inner {l : List (Str × NameKind)} (B : Bod C l) {h : Heap} (H : Hd C m n h) : Cx C.w C.In h := by
  obtain ⟨hh, ⟨p, loose, mean, mg, mb, T⟩, X, base, fr, Bl⟩ := B.cx
  exact Cx.inner hh Bl H.F X T rfl B.kind
/-- a name of the top: what it holds -/
theorem Bod.topName {l : List (Str × NameKind)} (B : Bod C l) {x : Str} {p : Pos} {v : Value} (hG : Glb C x) (e : nsIn (hd.heap_39 C.w.params) mainGlobals x = some (some v)) : Ev C m n (.Name x p) (Is v) := fun h tk ht H => by
  obtain ⟨hh, ⟨p, loose, mean, mg, mb, T⟩, X, base, fr, Bl⟩ := B.cx
  exact nameX_K (cl := []) H.F X (topRead_of T) e (.mk ht H rfl) hG.1 hG.2.1 hG.2.2
theorem Bod.bootName {l : List (Str × NameKind)} (B : Bod C l) {x : Str} {p : Pos} {v : Value} (hG : Glb C x) (e : nsIn (hd.heap_39 C.w.params) mainGlobals x = some none) (eb : bootBuiltins x = some v) (hn : x ≠ Str.ofString "__name__") : Ev C m n (.Name x p) (Is v) := fun h tk ht H => by
  obtain ⟨hh, ⟨p, loose, mean, mg, mb, T⟩, X, base, fr, Bl⟩ := B.cx
  exact nameX_B (cl := []) H.F X (topRead_of T) e eb hn (.mk ht H rfl) hG.1 hG.2.1 hG.2.2

/-- a def of the top called -/
theorem Bod.call {l : List (Str × NameKind)} (B : Bod C l) {x : Str} {p q : Pos} {e1 : Expr} {es : List Expr} {f : Value} {RA : Led → List Value → Prop} (hG : glbIn l x = true) (e : nsIn (hd.heap_39 C.w.params) mainGlobals x = some (some f)) (hkeep : keepIn (hd.heap_39 C.w.params) f = true)
    (ha : Ars C m n (e1 :: es) RA) (k : ∀ n' vs h tk, RA n' vs → 1 ≤ tk → Hd C m n' h → wpAny C.M C.In (PySem.call f vs) (Post C m R) NoE (C.st h tk))
    (hs : starEach (e1 :: es) C.env = (false, eval e1 C.env) :: starEach es C.env := by rfl) (hs2 : (List.any (backTo q (starEach es C.env)) fun x => Prod.fst x) = false := by rfl) : EvL C m n (.Call (.Name x p) (e1 :: es) [] q) R := fun h tk ht H =>
  Call_ (pb (B.topName (B.glb hG) e h tk ht H) fun _ h tk ht H ef => by
    subst ef
    exact callWith_K (h₀ := C.g) B.cx.kin hkeep (pa (ha q h tk ht H) fun vs h tk n' ht H r => ⟨B.cx.kin.keeps H.F.keep, k n' vs h tk r ht H⟩) hs hs2)
theorem Gives.post {f : Addr} {args : List Value} {h : Heap} {tk : Nat} {PH : Heap → Value → Prop} (g : Gives C.prog C.w C.In f args (C.st h tk) PH) (ht : 1 ≤ tk) (H : Hd C m n h) (k : ∀ h' r, PH h' r → Keep h h' → R n r) : wpAny C.M C.In (PySem.call (.ref f) args) (Post C m R) NoE (C.st h tk) :=
  g.useT ht fun h' tk' r ht' hk hp => .mkL ht' ⟨H.F.after hk, News.keep H.N hk, H.D⟩ (k h' r hp hk)
/-- a built-in function called -/
theorem Bod.callB {l : List (Str × NameKind)} (B : Bod C l) {x : Str} {id : String} {p q : Pos} {e1 : Expr} {es : List Expr} {RA : Led → List Value → Prop} (hG : glbIn l x = true) (e : nsIn (hd.heap_39 C.w.params) mainGlobals x = some none) (eb : bootBuiltins x = some (.builtin id)) (hn : x ≠ Str.ofString "__name__")
    (ha : Ars C m n (e1 :: es) RA) (k : ∀ n' vs h tk, RA n' vs → 1 ≤ tk → Hd C m n' h → wpAny C.M C.In (PySem.call (.builtin id) vs) (Post C m R) NoE (C.st h tk))
    (hs : starEach (e1 :: es) C.env = (false, eval e1 C.env) :: starEach es C.env := by rfl) (hs2 : (List.any (backTo q (starEach es C.env)) fun x => Prod.fst x) = false := by rfl) : EvL C m n (.Call (.Name x p) (e1 :: es) [] q) R := fun h tk ht H =>
  Call_ (pb (B.bootName (B.glb hG) e eb hn h tk ht H) fun _ h tk ht H ef => by
    subst ef
    exact PyProof.Rows.callWith_builtin1 (pa (ha q h tk ht H) fun vs h tk n' ht H r => k n' vs h tk r ht H) hs hs2)
end
end Mine
end
-- MD2
section
open PySem PySem.W PyProof.Rows PySem.Calls
set_option maxRecDepth 100000
set_option linter.unusedVariables false
namespace Mine
section
variable {C : Fc} {m : Mp} {n : Led} {P P1 P2 P3 : Value → Prop} {R R1 R2 : Led → Value → Prop} {Q : Flow → Shared → Prop}

/-- len -/
theorem Bod.len {l : List (Str × NameKind)} (B : Bod C l) {p q : Pos} {e1 : Expr} (hG : glbIn l "len" = true) (e : nsIn (hd.heap_39 C.w.params) mainGlobals "len" = some none)
    (h1 : Ev C m n e1 P1) (k : ∀ v h tk, P1 v → 1 ≤ tk → Hd C m n h → wpAny C.M C.In (PySem.call (.builtin "len") [v]) (Post C m R) NoE (C.st h tk))
    (hs : starEach [e1] C.env = (false, eval e1 C.env) :: starEach [] C.env := by rfl) : EvL C m n (.Call (.Name "len" p) [e1] [] q) R :=
  B.callB hG e (by boot_fast) (by decide +kernel) (RA := fun n' vs => n' = n ∧ ∃ v, vs = [v] ∧ P1 v) (.consP h1 (fun v p => .nil ⟨rfl, v, rfl, p⟩) hs)
    (fun n' vs h tk ⟨e1, v, e2, p⟩ ht H => by subst e1 e2; exact k v h tk p ht H) hs
theorem Bod.lenS {l : List (Str × NameKind)} (B : Bod C l) {p q : Pos} {e1 : Expr} {x : List Nat} (hG : glbIn l "len" = true) (e : nsIn (hd.heap_39 C.w.params) mainGlobals "len" = some none) (h1 : Ev C m n e1 (IsS x)) (hz : x.length ≤ 16777216)
    (hs : starEach [e1] C.env = (false, eval e1 C.env) :: starEach [] C.env := by rfl) : Ev C m n (.Call (.Name "len" p) [e1] [] q) (IsI (x.length : Int)) :=
  B.len hG e h1 (fun _ h tk ⟨t, ev⟩ ht H => by
    subst ev
    refine len_str (by rw [S_len]; omega) ?_
    rw [S_len]
    exact .mk (Nat.le_add_left 1 _) H ⟨_, rfl⟩) hs
/-- len of a list of the ledger or the ground -/
theorem Bod.lenL {l : List (Str × NameKind)} (B : Bod C l) {p q : Pos} {e1 : Expr} {a : Addr} {k : Nat} (hG : glbIn l "len" = true) (e : nsIn (hd.heap_39 C.w.params) mainGlobals "len" = some none) (h1 : Ev C m n e1 (Is (.ref a)))
    (hl : ∀ h, Hd C m n h → ∃ vs : List Value, h.IsList a vs.toArray ∧ vs.length = k) (hz : k < 2 ^ 62)
    (hs : starEach [e1] C.env = (false, eval e1 C.env) :: starEach [] C.env := by rfl) : Ev C m n (.Call (.Name "len" p) [e1] [] q) (IsI (k : Int)) :=
  B.len hG e h1 (fun _ h tk ev ht H => by
    subst ev
    obtain ⟨vs, hv, hk⟩ := hl h H
    refine len_list hv (by rw [List.size_toArray, hk]; omega) ?_
    rw [List.size_toArray, hk]
    exact .mk (Nat.le_add_left 1 _) H ⟨_, rfl⟩) hs
theorem Bod.lenT {l : List (Str × NameKind)} (B : Bod C l) {p q : Pos} {e1 : Expr} {a : Addr} {k : Nat} (hG : glbIn l "len" = true) (e : nsIn (hd.heap_39 C.w.params) mainGlobals "len" = some none) (h1 : Ev C m n e1 (Is (.ref a)))
    (hl : ∀ h, Hd C m n h → ∃ vs : List Value, IsTup h a vs.toArray ∧ vs.length = k) (hz : k < 2 ^ 62)
    (hs : starEach [e1] C.env = (false, eval e1 C.env) :: starEach [] C.env := by rfl) : Ev C m n (.Call (.Name "len" p) [e1] [] q) (IsI (k : Int)) :=
  B.len hG e h1 (fun _ h tk ev ht H => by
    subst ev
    obtain ⟨vs, hv, hk⟩ := hl h H
    refine len_tuple hv (by rw [List.size_toArray, hk]; omega) ?_
    rw [List.size_toArray, hk]
    exact .mk (Nat.le_add_left 1 _) H ⟨_, rfl⟩) hs
theorem News.list {g h : Heap} {L a : Addr} {vs : List Value} {k : Nat} {n : Led} (N : News g L h n) (hm : (a, W.listOf vs.toArray k) ∈ n) : h.IsList a vs.toArray := News.isList N hm

/-- a list's item -/
theorem Ev.item {x i : Expr} {p : Pos} {a : Addr} {k : Nat} {v : Value} (h1 : Ev C m n x (Is (.ref a))) (h2 : Ev C m n i (IsI (k : Int))) (hl : ∀ h, Hd C m n h → ∃ vs : List Value, h.IsList a vs.toArray ∧ vs.length < 2 ^ 62 ∧ vs[k]? = some v ∧ P v)
    (hs : ∀ t, subscripted i false (.ref a) (.int (k : Int) t) = operate [.ref a, .int (k : Int) t] (getItem (.ref a) (.int (k : Int) t)) := by intro _; with_unfolding_all rfl) (hg : ∀ r, letTemporaryGo x (.ref a) r = pure () := by intro _; with_unfolding_all rfl) : Ev C m n (.Subscript x i p) P := fun h tk ht H =>
  Subscript_ (pb (h1 h tk ht H) fun _ h tk ht H e1 => pb (h2 h tk ht H) fun _ h tk ht H ⟨t, e2⟩ => by
    subst e1 e2
    obtain ⟨vs, hv, hlt, hk, hP⟩ := hl h H
    have := (List.getElem?_eq_some_iff.mp hk).1
    exact item_listL hv (by omega) (by omega) (by simpa using hk) (.mk ht H hP) (hs t) hg)
/-- a list's last item -/
theorem Ev.last {x i : Expr} {p : Pos} {a : Addr} {v : Value} (h1 : Ev C m n x (Is (.ref a))) (h2 : Ev C m n i (IsI (-1))) (hl : ∀ h, Hd C m n h → ∃ vs : List Value, h.IsList a (vs ++ [v]).toArray ∧ P v)
    (hs : ∀ t, subscripted i false (.ref a) (.int (-1) t) = operate [.ref a, .int (-1) t] (getItem (.ref a) (.int (-1) t)) := by intro _; with_unfolding_all rfl) (hg : ∀ r, letTemporaryGo x (.ref a) r = pure () := by intro _; with_unfolding_all rfl) : Ev C m n (.Subscript x i p) P := fun h tk ht H =>
  Subscript_ (pb (h1 h tk ht H) fun _ h tk ht H e1 => pb (h2 h tk ht H) fun _ h tk ht H ⟨t, e2⟩ => by
    subst e1 e2
    obtain ⟨vs, hv, hP⟩ := hl h H
    refine tail_any hv.typeIs slot_list_getitem.lookup (wpAny_getItem_list_neg (x := v) hv (by decide) ?_ (by decide) ?_ (.mk ht H hP)) (hs t)
    · rw [List.size_toArray, List.length_append, List.length_cons, List.length_nil]; omega
    · rw [List.size_toArray, List.length_append, List.length_cons, List.length_nil]
      have e : (-1 + ((vs.length + (0 + 1) : Nat) : Int)).toNat = vs.length := by omega
      rw [e]; simp)
theorem seqIndex_nat {k n : Nat} (h : k < n) : seqIndex? (k : Int) n = some k := by
  unfold seqIndex?
  simp only [show ¬ ((k : Int) < 0) by omega, if_false]
  simp; omega
/-- a tuple's item -/
theorem Ev.itemTup {x i : Expr} {p : Pos} {a : Addr} {k : Nat} {v : Value} (h1 : Ev C m n x (Is (.ref a))) (h2 : Ev C m n i (IsI (k : Int))) (hl : ∀ h, Hd C m n h → ∃ vs : List Value, IsTup h a vs.toArray ∧ vs.length < 2 ^ 62 ∧ vs[k]? = some v ∧ P v)
    (hs : ∀ t, subscripted i false (.ref a) (.int (k : Int) t) = operate [.ref a, .int (k : Int) t] (getItem (.ref a) (.int (k : Int) t)) := by intro _; with_unfolding_all rfl) : Ev C m n (.Subscript x i p) P := fun h tk ht H =>
  Subscript_ (pb (h1 h tk ht H) fun _ h tk ht H e1 => pb (h2 h tk ht H) fun _ h tk ht H ⟨t, e2⟩ => by
    subst e1 e2
    obtain ⟨vs, hv, hlt, hk, hP⟩ := hl h H
    have := (List.getElem?_eq_some_iff.mp hk).1
    exact item_tupleT (l := vs) (j := k) hv (by omega) (by omega) (seqIndex_nat this) hk (.mk ht H hP) (hs t))
/-- a sign of a text -/
theorem Ev.char {x i : Expr} {p : Pos} {l : List Nat} {k c : Nat} (h1 : Ev C m n x (IsS l)) (h2 : Ev C m n i (IsI (k : Int))) (hc : l[k]? = some c) (hz : l.length ≤ 16777216)
    (hs : ∀ t u, subscripted i false (.str (S l) t) (.int (k : Int) u) = operate [.str (S l) t, .int (k : Int) u] (getItem (.str (S l) t) (.int (k : Int) u)) := by intro _ _; with_unfolding_all rfl) (hg : ∀ t r, letTemporaryGo x (.str (S l) t) r = pure () := by intro _ _; with_unfolding_all rfl) : Ev C m n (.Subscript x i p) (IsS [c]) := fun h tk ht H =>
  Subscript_ (pb (h1 h tk ht H) fun _ h tk ht H ⟨t, e1⟩ => pb (h2 h tk ht H) fun _ h tk ht H ⟨u, e2⟩ => by
    subst e1 e2
    exact charS rfl rfl hc hz ht (fun t' tk ht => .mk ht H ⟨_, rfl⟩) (hs _ _) (hg _))

/-- a text's parts -/
theorem Ev.sliceFrom {x lo : Expr} {p1 p2 : Pos} {l : List Nat} {b : Nat} (h1 : Ev C m n x (IsS l)) (h2 : Ev C m n lo (IsI (b : Int))) (hz : l.length ≤ 16777216)
    (hg : ∀ t r, letTemporaryGo x (.str (S l) t) r = pure () := by intro _ _; with_unfolding_all rfl) : Ev C m n (.Subscript x (.Slice (some lo) none none p1) p2) (IsS (l.drop b)) := fun h tk ht H =>
  Subscript_ (pb (h1 h tk ht H) fun _ h tk ht H ⟨t, e1⟩ => wpAny_Slice (evalPart_some_step (pb (h2 h tk ht H) fun _ h tk ht H ⟨u, e2⟩ => by
    subst e1 e2
    refine evalPart_none_step (evalPart_none_step ?_)
    exact Mine.sliceFrom (s := C.st h tk) rfl rfl ht H.F H.N hz (fun h' t' k hk F N => .mk hk ⟨F, N, H.D⟩ ⟨_, rfl⟩) (by with_unfolding_all rfl) (hg _))))
theorem Ev.sliceTo {x hi : Expr} {p1 p2 : Pos} {l : List Nat} {b : Nat} (h1 : Ev C m n x (IsS l)) (h2 : Ev C m n hi (IsI (b : Int))) (hz : l.length ≤ 16777216)
    (hg : ∀ t r, letTemporaryGo x (.str (S l) t) r = pure () := by intro _ _; with_unfolding_all rfl) : Ev C m n (.Subscript x (.Slice none (some hi) none p1) p2) (IsS (l.take b)) := fun h tk ht H =>
  Subscript_ (pb (h1 h tk ht H) fun _ h tk ht H ⟨t, e1⟩ => wpAny_Slice (evalPart_none_step (evalPart_some_step (pb (h2 h tk ht H) fun _ h tk ht H ⟨u, e2⟩ => by
    subst e1 e2
    refine evalPart_none_step ?_
    exact Mine.sliceTo (s := C.st h tk) rfl rfl ht H.F H.N hz (fun h' t' k hk F N => .mk hk ⟨F, N, H.D⟩ ⟨_, rfl⟩) (by with_unfolding_all rfl) (hg _)))))
/-- the first items of a list -/
theorem EvL.takeL {x hi : Expr} {p1 p2 : Pos} {a : Addr} {vs : List Value} {b : Nat} (h1 : Ev C m n x (Is (.ref a))) (h2 : Ev C m n hi (IsI (b : Int))) (hl : ∀ h, Hd C m n h → h.IsList a vs.toArray) (hz : vs.length ≤ 16777216)
    (k : ∀ D, (∀ p ∈ n, p.1 ≠ D) → R ((D, W.listOf (vs.take b).toArray 0) :: n) (.ref D))
    (hg : ∀ r, letTemporaryGo x (.ref a) r = pure () := by intro _; with_unfolding_all rfl) : EvL C m n (.Subscript x (.Slice none (some hi) none p1) p2) R := fun h tk ht H =>
  Subscript_ (pb (h1 h tk ht H) fun _ h tk ht H e1 => wpAny_Slice (evalPart_none_step (evalPart_some_step (pb (h2 h tk ht H) fun _ h tk ht H ⟨u, e2⟩ => by
    subst e1 e2
    refine evalPart_none_step ?_
    refine kmk_slice_lit (s := C.st h tk) (zs := vs.take b) H.F H.N (hl h H) .none (.int _ _) (by rw [pick_upto _ _ (by omega), Int.toNat_natCast]) (fun D h' F N l => ?_) (by with_unfolding_all rfl) hg (by rw [List.size_toArray, sizeLine_eq]; omega)
    exact .mkL ht ⟨F, N, fresh_dis H l⟩ (k D fun q hq e => absurd (l q hq) (e ▸ Nat.lt_irrefl _))))))

/-! objects -/
/-- an attribute of an object's own -/
theorem Bod.attr {l : List (Str × NameKind)} (B : Bod C l) {e : Expr} {name : Str} {p : Pos} {x cl : Addr} {at_ : Option Value} (h1 : Ev C m n e (Is (.ref x)))
    (hi : ∀ h, Hd C m n h → ∃ ox es k v, W.InstAt h x ox cl (some (dictOf es k)) ∧ getL name es = some (some v) ∧ handedIn v = true ∧ P v)
    (hp : plainGet (hd.heap_39 C.w.params) cl name = true) (hd' : hasDictIn (hd.heap_39 C.w.params) cl = true) (hf : findIn (hd.heap_39 C.w.params) (.ref cl) name = some at_) (hn : noGet (hd.heap_39 C.w.params) at_ = true)
    (he : eval (.Attribute e name p) C.env = (do
      let o ← eval e C.env
      standAt p.atName
      let r ← holding [o] (getAttr o name true)
      letTemporaryGo e o r
      pure r) := by with_unfolding_all rfl) : Ev C m n (.Attribute e name p) P := fun h tk ht H =>
  Attribute_any_ (pb (h1 h tk ht H) fun _ h tk ht H e1 => by
    subst e1
    obtain ⟨ox, es, k, v, I, hl, hh, hP⟩ := hi h H
    exact get_own (s := C.st h tk) H.F B.cx.kin I hp hd' hf hn hl hh (.mk (Nat.le_add_left 1 _) H hP)) he
/-- a method called -/
theorem Bod.meth0 {l : List (Str × NameKind)} (B : Bod C l) {o : Expr} {name : Str} {p1 p2 : Pos} {x cl f : Addr} (pl' : Sem Bool) (h1 : Ev C m n o (Is (.ref x)))
    (hi : ∀ h, Hd C m n h → ∃ ox es k, W.InstAt h x ox cl (some (dictOf es k)) ∧ getL name es = some none)
    (hp : plainGet (hd.heap_39 C.w.params) cl name = true) (hf : findIn (hd.heap_39 C.w.params) (.ref cl) name = some (some (.ref f))) (hfn : isFn (hd.heap_39 C.w.params) (.ref f) = true) (hkeep : keepIn (hd.heap_39 C.w.params) (.ref f) = true)
    (k : ∀ h tk, 1 ≤ tk → Hd C m n h → wpAny C.M C.In (PySem.call (.ref f) [.ref x]) (Post C m R) NoE (C.st h tk))
    (he : eval (.Call (.Attribute o name p1) [] [] p2) C.env = (do
      let ov ← eval o C.env
      standAt p1.atName
      let (f, first) ← holding [ov] (getMethod ov name pl')
      callWith p2 f first (backTo p2 (starEach [] C.env)) []) := by rfl) : EvL C m n (.Call (.Attribute o name p1) [] [] p2) R := fun h tk ht H =>
  MethodCall_ (pl := pl') (pb (h1 h tk ht H) fun _ h tk ht H e1 => by
    subst e1
    obtain ⟨ox, es', k', I, hl⟩ := hi h H
    exact method_inst (s := C.st h tk) H.F B.cx.kin I hp hf hfn hl (callWith_K0 (B.cx.kin.keeps H.F.keep) hkeep (k h tk ht H))) he
theorem Bod.meth1 {l : List (Str × NameKind)} (B : Bod C l) {o e1 : Expr} {name : Str} {p1 p2 : Pos} {x cl f : Addr} (pl' : Sem Bool) (h1 : Ev C m n o (Is (.ref x))) (h2 : Ev C m n e1 P1)
    (hi : ∀ h, Hd C m n h → ∃ ox es k, W.InstAt h x ox cl (some (dictOf es k)) ∧ getL name es = some none)
    (hp : plainGet (hd.heap_39 C.w.params) cl name = true) (hf : findIn (hd.heap_39 C.w.params) (.ref cl) name = some (some (.ref f))) (hfn : isFn (hd.heap_39 C.w.params) (.ref f) = true) (hkeep : keepIn (hd.heap_39 C.w.params) (.ref f) = true)
    (k : ∀ v h tk, P1 v → 1 ≤ tk → Hd C m n h → wpAny C.M C.In (PySem.call (.ref f) [.ref x, v]) (Post C m R) NoE (C.st h tk))
    (hs : starEach [e1] C.env = (false, eval e1 C.env) :: starEach [] C.env := by rfl)
    (he : eval (.Call (.Attribute o name p1) [e1] [] p2) C.env = (do
      let ov ← eval o C.env
      standAt p1.atName
      let (f, first) ← holding [ov] (getMethod ov name pl')
      callWith p2 f first (backTo p2 (starEach [e1] C.env)) []) := by rfl) : EvL C m n (.Call (.Attribute o name p1) [e1] [] p2) R := fun h tk ht H =>
  MethodCall_ (pl := pl') (pb (h1 h tk ht H) fun _ h tk ht H e1 => by
    subst e1
    obtain ⟨ox, es', k', I, hl⟩ := hi h H
    refine method_inst (s := C.st h tk) H.F B.cx.kin I hp hf hfn hl (callWith_K (h₀ := C.g) B.cx.kin hkeep ?_ hs rfl)
    exact args_cons (pb (h2 h tk ht H) fun v1 h tk ht H p1 => args_nil ⟨B.cx.kin.keeps H.F.keep, k v1 h tk p1 ht H⟩) hs) he

/-! statements -/
theorem Run.nil (k : ∀ h tk, 1 ≤ tk → Hd C m n h → Q .next (C.st h tk)) : Run C m n [] Q := fun h tk ht H => wpAny_execs_nil (k h tk ht H)
/-- one statement, cut off: what it leaves -/
theorem Run.cut {st : Stmt} {rest : List Stmt} (R : Mp → Led → Prop) (h1 : ∀ Q' : Flow → Shared → Prop, (∀ m' n' h tk, R m' n' → 1 ≤ tk → Hd C m' n' h → Q' .next (C.st h tk)) → (∀ v s, Q (.ret v) s → Q' (.ret v) s) → (∀ s, Q .brk s → Q' .brk s) → ∀ h tk, 1 ≤ tk → Hd C m n h → wpAny C.M C.In (exec st C.env) Q' NoE (C.st h tk))
    (k : ∀ m' n', R m' n' → Run C m' n' rest Q) : Run C m n (st :: rest) Q := fun h tk ht H =>
  wpAny_execs_cons (h1 (fun f s => match f with | .next => wpAny C.M C.In (execs rest C.env) Q NoE s | f => Q f s) (fun m' n' h tk r ht H => k m' n' r h tk ht H) (fun _ _ q => q) (fun _ q => q) h tk ht H)
theorem Run.assignL {x : Str} {px : Pos} {e : Expr} {p : Pos} {rest : List Stmt} (hL : Loc C x) (he : EvL C m n e R) (k : ∀ n' v, R n' v → Run C (upd m x v) n' rest Q)
    (hsw : swapsWith e (some (.Name x px)) p.line C.env = pure false := by rfl) : Run C m n (.Assign [.Name x px] e p :: rest) Q := fun h tk ht H =>
  wpAny_execs_cons (wpAny_Assign_Name (pl (he h tk ht H) fun v h tk n' ht H pv => storeX_L (cl := []) H.F H.N (fun h' F' N' => k n' v pv h' _ (Nat.le_add_left 1 _) ⟨F', N', H.D⟩) hL.1 hL.2.1) hsw)
theorem Run.assign {x : Str} {px : Pos} {e : Expr} {p : Pos} {rest : List Stmt} (hL : Loc C x) (he : Ev C m n e P) (k : ∀ v, P v → Run C (upd m x v) n rest Q)
    (hsw : swapsWith e (some (.Name x px)) p.line C.env = pure false := by rfl) : Run C m n (.Assign [.Name x px] e p :: rest) Q :=
  .assignL hL he (fun n' v ⟨e, p⟩ => by subst e; exact k v p) hsw
theorem Run.retL {e : Expr} {p : Pos} {rest : List Stmt} (he : EvL C m n e R) (k : ∀ v h tk n', R n' v → 1 ≤ tk → Hd C m n' h → Q (.ret v) (C.st h tk)) : Run C m n (.Return (some e) p :: rest) Q := fun h tk ht H =>
  wpAny_execs_cons (wpAny_Return_some (pl (he h tk ht H) fun v h tk n' ht H pv => k v h tk n' pv ht H))
theorem Run.ret {e : Expr} {p : Pos} {rest : List Stmt} (he : Ev C m n e P) (k : ∀ v h tk, P v → 1 ≤ tk → Hd C m n h → Q (.ret v) (C.st h tk)) : Run C m n (.Return (some e) p :: rest) Q :=
  .retL he fun v h tk n' ⟨e, p⟩ ht H => by subst e; exact k v h tk p ht H
/-- a conditional: its ways don't meet again -/
theorem Run.if {t : Expr} {a b rest : List Stmt} {p : Pos} {c : Prop} (ht : Tst C m n t c) (ha : c → Run C m n a (Beh C rest Q)) (hb : ¬ c → Run C m n b (Beh C rest Q)) : Run C m n (.If t a b p :: rest) Q := fun h tk htk H => by
  refine wpAny_execs_cons (wpAny_If (bb (ht h tk htk H) fun q h tk htk H hq => ?_))
  have go : ∀ {l : List Stmt}, Run C m n l (Beh C rest Q) → wpAny C.M C.In (execs l C.env) (fun f s' => match f with | .next => wpAny C.M C.In (execs rest C.env) Q NoE s' | f => Q f s') NoE (C.st h tk) := fun r =>
    wpAny_mono (wpAny_toks_of (n := 1) htk (r h tk htk H)) (fun f s x => by
      cases f with
      | next => exact x.2 x.1
      | cont => exact x.2
      | brk => exact x.2
      | ret v => exact x.2) fun _ _ x => x.2
  cases q with
  | true => exact go (ha (hq.mp rfl))
  | false => exact go (hb (fun x => by have := hq.mpr x; cases this))
theorem Run.on {b : List Stmt} (r : Run C m n b Q) : Run C m n [] (Beh C b Q) := .nil fun h tk ht H _ => r h tk ht H
theorem Run.brk {p : Pos} {rest : List Stmt} (k : ∀ h tk, 1 ≤ tk → Hd C m n h → Q .brk (C.st h tk)) : Run C m n (.Break p :: rest) Q := fun h tk ht H => wpAny_execs_cons (wpAny_Break (k h tk ht H))
/-- behind a statement that is cut off -/
structure Aft (C : Fc) (D : Mp → Led → Prop) (Q Q' : Flow → Shared → Prop) : Prop where
  next : ∀ m' n' h tk, D m' n' → 1 ≤ tk → Hd C m' n' h → Q' .next (C.st h tk)
  ret : ∀ v s, Q (.ret v) s → Q' (.ret v) s
  brk : ∀ s, Q .brk s → Q' .brk s
theorem Aft.run {D : Mp → Led → Prop} {Q Q' : Flow → Shared → Prop} (T : Aft C D Q Q') (d : D m n) : Run C m n [] Q' := .nil fun h tk ht H => T.next m n h tk d ht H
/-- a conditional whose ways meet again -/
theorem Run.ifC {t : Expr} {a b rest : List Stmt} {p : Pos} {c : Prop} (D : Mp → Led → Prop) (ht : Tst C m n t c) (ha : c → ∀ Q', Aft C D Q Q' → Run C m n a Q') (hb : ¬ c → ∀ Q', Aft C D Q Q' → Run C m n b Q') (k : ∀ m' n', D m' n' → Run C m' n' rest Q) : Run C m n (.If t a b p :: rest) Q :=
  .cut D (fun Q' hn hr hb' h tk htk H => wpAny_If (bb (ht h tk htk H) fun q h tk htk H hq => by
    have T : Aft C D Q Q' := ⟨fun m' n' h tk d ht H => hn m' n' h tk d ht H, hr, hb'⟩
    cases q with
    | true => exact ha (hq.mp rfl) Q' T h tk htk H
    | false => exact hb (fun x => by have := hq.mpr x; cases this) Q' T h tk htk H)) k
/-- the ledger's order is free -/
theorem Hd.perm {n' : Led} {h : Heap} (H : Hd C m n h) (p : n.Perm n') : Hd C m n' h := ⟨H.F, fun q hq => H.N q (p.mem_iff.mpr hq), (List.Perm.pairwise_iff (R := fun a b : Addr × Obj => a.1 ≠ b.1) (fun {a b} e => Ne.symm e) p).mp H.D⟩
theorem Run.perm {n' : Led} {b : List Stmt} (p : n.Perm n') (k : Run C m n' b Q) : Run C m n b Q := fun h tk ht H => k h tk ht (H.perm p)
theorem quiet {C : Fc} (h : C.cs.kind = .function) : interactive C.env = false := by
  have e : C.env.scope.kind = .function := h
  unfold interactive
  rw [e]; rfl
/-- x.append(e) -/
theorem Run.append {x : Str} {px pa' pc pe : Pos} {e : Expr} {rest : List Stmt} {D : Addr} (hL : Loc C x) (hm : m x = some (.ref D)) (hD : ∃ vs : List Value, ∃ k, (D, W.listOf vs.toArray k) ∈ n) (he : EvL C m n e R)
    (k : ∀ n' v, R n' v → Dis n' → ∃ pre post vs j, n' = pre ++ (D, W.listOf (List.toArray vs) j) :: post ∧ vs.length ≤ 100000 ∧ Run C m (pre ++ (D, W.listOf (vs ++ [v]).toArray (j + 1)) :: post) rest Q)
    (hs : starEach [e] C.env = (false, eval e C.env) :: starEach [] C.env := by rfl)
    (he' : ∃ pl', eval (.Call (.Attribute (.Name x px) "append" pa') [e] [] pc) C.env = (do
      let ov ← eval (.Name x px) C.env
      standAt pa'.atName
      let (f, first) ← holding [ov] (getMethod ov "append" pl')
      callWith pc f first (backTo pc (starEach [e] C.env)) []) := by exact ⟨_, rfl⟩)
    (hsw : swapsWith (.Call (.Attribute (.Name x px) "append" pa') [e] [] pc) none pe.line C.env = pure false := by rfl) : Run C m n (.Expr (.Call (.Attribute (.Name x px) "append" pa') [e] [] pc) pe :: rest) Q := fun h tk ht H => by
  obtain ⟨pl', he'⟩ := he'
  obtain ⟨vs0, k0, hD⟩ := hD
  refine wpAny_execs_cons (wpAny_Expr ?_ (quiet hL.1) hsw)
  refine MethodCall_ (pl := pl') (ld H.F hm ?_ hL.1 hL.2.1 hL.2.2) he'
  refine getMethod_list_append (s := C.st h tk) (H.N _ hD).1 rfl rfl ?_
  refine callWith_method1 (args_cons (pl (he h tk ht H) fun v h tk n' ht H r => args_nil ?_) hs) hs rfl
  obtain ⟨pre, post, vs, j, rfl, hz, hk⟩ := k n' v r H.D
  have U := upd_at (o' := W.listOf (vs ++ [v]).toArray (j + 1)) pre H.D
  refine append_K (s := C.st h tk) H.F H.N (its := vs.toArray) (n := j) (x := v) (news' := pre ++ (D, W.listOf (vs ++ [v]).toArray (j + 1)) :: post) ?_ (fun h' F' N' => ?_) (by rw [List.size_toArray, sizeLine_eq]; omega)
  · rw [push_list]; exact U
  · exact hk h' tk ht ⟨F', N', Upd.dis U H.D⟩
theorem kl_last_app (p : List Value) (y : Value) : kl_last (p ++ [y]) = some (p, y) := by
  induction p with
  | nil => rfl
  | cons a r ih => rw [List.cons_append, kl_last, ih]
/-- x.pop(), its value dropped -/
theorem Run.pop {x : Str} {px pa' pc pe : Pos} {rest : List Stmt} {D : Addr} (pre post : Led) {vs : List Value} {v : Value} {j : Nat} (hL : Loc C x) (hm : m x = some (.ref D)) (hn : n = pre ++ (D, W.listOf (vs ++ [v]).toArray j) :: post) (hz : vs.length ≤ 100000)
    (k : Run C m (pre ++ (D, W.listOf vs.toArray (j + 1)) :: post) rest Q)
    (he' : ∃ pl', eval (.Call (.Attribute (.Name x px) "pop" pa') [] [] pc) C.env = (do
      let ov ← eval (.Name x px) C.env
      standAt pa'.atName
      let (f, first) ← holding [ov] (getMethod ov "pop" pl')
      callWith pc f first (backTo pc (starEach [] C.env)) []) := by exact ⟨_, rfl⟩)
    (hsw : swapsWith (.Call (.Attribute (.Name x px) "pop" pa') [] [] pc) none pe.line C.env = pure false := by rfl) : Run C m n (.Expr (.Call (.Attribute (.Name x px) "pop" pa') [] [] pc) pe :: rest) Q := fun h tk ht H => by
  obtain ⟨pl', he'⟩ := he'
  refine wpAny_execs_cons (wpAny_Expr_any ?_ (quiet hL.1) hsw)
  refine MethodCall_ (pl := pl') (ld H.F hm ?_ hL.1 hL.2.1 hL.2.2) he'
  subst hn
  have U := upd_at (o' := W.listOf vs.toArray (j + 1)) pre H.D
  refine kl_method (s := C.st h tk) H.N (its := (vs ++ [v]).toArray) (n := j) (List.mem_append.mpr (.inr (.head _))) PySem.F.slot_list_pop PySem.F.type_list_pop ?_
  refine callWith_method0 ?_
  refine kl_pop (s := C.st h tk) H.F H.N (its := (vs ++ [v]).toArray) (p := vs) (y := v) (kl_last_app vs v) U (by simp; rw [sizeLine_eq]; omega) fun h' F' N' => ?_
  exact k h' tk ht ⟨F', N', Upd.dis U H.D⟩
/-- x[i] = e, a list of ints -/
theorem Run.setItem {x : Str} {px ps pe : Pos} {i e : Expr} {rest : List Stmt} {D : Addr} (pre post : Led) {vs : List Value} {ns : List Int} {j k : Nat} {y : Int} (hL : Loc C x) (hm : m x = some (.ref D)) (hn : n = pre ++ (D, W.listOf vs.toArray j) :: post) (hv : IntsAre vs ns) (hk : k < ns.length) (hz : ns.length ≤ 100000)
    (he : Ev C m n e (IsI y)) (hi : Ev C m n i (IsI (k : Int)))
    (kk : ∀ vs', IntsAre vs' (ns.set k y) → Run C m (pre ++ (D, W.listOf vs'.toArray j) :: post) rest Q)
    (hsw : swapsWith e (some (.Subscript (.Name x px) i ps)) pe.line C.env = pure false := by rfl) : Run C m n (.Assign [.Subscript (.Name x px) i ps] e pe :: rest) Q := fun h tk ht H => by
  refine wpAny_execs_cons (wpAny_Assign_Subscript (pb (he h tk ht H) fun v h tk ht H ⟨u, ev⟩ => ?_) hsw)
  refine ld H.F hm ?_ hL.1 hL.2.1 hL.2.2
  refine pb (hi h tk ht H) fun iv h tk ht H ⟨t, ei⟩ => ?_
  subst ev ei hn
  have U := upd_at (o' := W.listOf (vs.set k (.int y u)).toArray j) pre H.D
  refine ksa_set (s := C.st h tk) H.F H.N (by rw [Int.toNat_natCast]; exact U) hv (by omega) (by omega) (by omega) fun h' F' N' hi' _ _ => ?_
  rw [Int.toNat_natCast] at hi'
  exact kk _ hi' h' tk ht ⟨F', N', Upd.dis U H.D⟩

/-- x, y = e -/
theorem Run.unpack2 {x y : Str} {px py pt pe : Pos} {k0 : Nat} {e : Expr} {rest : List Stmt} {t : Addr} {u v : Value} (hx : Loc C x) (hy : Loc C y) (he : Ev C m n e (Is (.ref t))) (hT : ∀ h, Hd C m n h → IsTup h t #[u, v]) (hh : C.A.handled = none)
    (kk : Run C (upd (upd m x u) y v) n rest Q)
    (h1 : (assignEach [.Name x px, .Name y py] C.env).length = 2 := by rfl) (h2 : (assignEach [.Name x px, .Name y py] C.env).findIdx? (fun x => x.1) = none := by rfl)
    (h3 : (assignEach [.Name x px, .Name y py] C.env).map (fun x => x.2) = [PySem.assign (.Name x px) C.env, PySem.assign (.Name y py) C.env] := by rfl)
    (h4 : swapsWithSole [.Tuple [.Name x px, .Name y py] k0 pt] e pe.line C.env = pure false := by rfl) (h5 : swappedStores [.Tuple [.Name x px, .Name y py] k0 pt] e C.env = pure none := by rfl) : Run C m n (.Assign [.Tuple [.Name x px, .Name y py] k0 pt] e pe :: rest) Q := fun h tk ht H => by
  refine wpAny_execs_cons (Assign_Tuple (pb (he h tk ht H) fun w h tk ht H ew => ?_) h4 h5)
  subst ew
  refine unpackN_ (s := C.st h tk) H.F H.N (hT h H) hh h1 h2 fun h' F' N' => ?_
  rw [h3]
  refine assignInOrder_cons (wpAny_assign_Name (storeX_L (cl := []) F' N' (fun h'' F'' N'' => ?_) hx.1 hx.2.1))
  refine assignInOrder_cons (wpAny_assign_Name (storeX_L (cl := []) F'' N'' (fun h3 F3 N3 => ?_) hy.1 hy.2.1))
  exact assignInOrder_nil (kk h3 _ (Nat.le_add_left 1 _) ⟨F3, N3, H.D⟩)
/-- a turn's ends -/
structure TurnD (C : Fc) (I : Addr) (oI : Obj) (Jn D : Mp → Led → Prop) (Q Q' : Flow → Shared → Prop) : Prop where
  next : ∀ h tk m' n', Hd C m' ((I, oI) :: n') h → Jn m' n' → Q' .next (C.st h tk)
  brk : ∀ h tk m' n', 1 ≤ tk → Hd C m' n' h → D m' n' → Q' .brk (C.st h tk)
  ret : ∀ v s, Q (.ret v) s → Q' (.ret v) s
theorem TurnD.run {I : Addr} {oI : Obj} {Jn D : Mp → Led → Prop} {Q Q' : Flow → Shared → Prop} {m' : Mp} {n' : Led} (T : TurnD C I oI Jn D Q Q') (hJ : Jn m' n') : Run C m' ((I, oI) :: n') [] Q' := .nil fun h tk ht H => T.next h tk m' n' H hJ

theorem Bod.forUp {l : List (Str × NameKind)} (B : Bod C l) {x : Str} {px p1 p2 pos : Pos} {es : List Expr} {e1 : Expr} {body rest : List Stmt} {a N : Nat} (J : Nat → Mp → Led → Prop) (D : Mp → Led → Prop) (hx : locIn l x = true)
    (hG : glbIn l "range" = true) (e : nsIn (hd.heap_39 C.w.params) mainGlobals "range" = some none)
    (ha : Ars C m n (e1 :: es) fun n' vs => n' = n ∧ ((∃ v2, vs = [v2] ∧ a = 0 ∧ IsI (N : Int) v2) ∨ ∃ v1 v2, ∃ b : Nat, vs = [v1, v2] ∧ IsI (a : Int) v1 ∧ IsI (b : Int) v2 ∧ N = b - a ∧ b ≤ 2000000)) (ha' : a ≤ 1000000) (hN : N ≤ 1000000) (h0 : J 0 m n)
    (turn : ∀ i v m₁ n₁ I oI Q', i < N → IsI ((a + i : Nat) : Int) v → J i m₁ n₁ → TurnD C I oI (J (i + 1)) D Q Q' → Run C (upd m₁ x v) ((I, oI) :: n₁) body Q')
    (done : ∀ m₁ n₁, J N m₁ n₁ → D m₁ n₁) (k : ∀ m₁ n₁, D m₁ n₁ → Run C m₁ n₁ rest Q)
    (hs : starEach (e1 :: es) C.env = (false, eval e1 C.env) :: starEach es C.env := by rfl) (hs2 : (List.any (backTo p2 (starEach es C.env)) fun x => Prod.fst x) = false := by rfl) : Run C m n (.For (.Name x px) (.Call (.Name "range" p1) (e1 :: es) [] p2) body [] pos :: rest) Q :=
  .cut D (fun Q' hn hr hb h tk ht H => forT ht (Call_ (pb (B.bootName (B.glb hG) e (by boot_fast) (by decide +kernel) h tk ht H) fun _ h tk ht H ef => by
    subst ef
    refine PyProof.Rows.callWith_type1 (pa (ha p2 h tk ht H) fun vs h tk n' ht H r => ?_) hs hs2
    obtain ⟨en, r⟩ := r
    rw [en] at H
    have go : ∀ {r' : Addr} {b : Int} {t u v : Tok} {h' : Heap} {tk' : Nat}, IsRange h' r' (a : Int) b 1 t u v → (N = (b - (a : Int)).toNat ∧ -(2 ^ 62) ≤ b ∧ b < 2 ^ 62) → Fr C.g C.env.locals h' m → News C.g C.L h' n → 1 ≤ tk' → 
        wpAny C.M C.In (pyIter (.ref r')) (fun it s₂ => codeAny C.M C.In (.forLoop (.Name x px) it body [] C.env) (fun r s' => match r with | .ok f => Q' f s' | .error e => False) s₂) NoE (C.st h' tk') := by
      intro r' b t u v h' tk' hr' eb F' N' ht'
      exact iterUp (s := C.st h' tk') N (fun i m n => J i m n ∧ Dis n) B.cx.hh (B.loc hx).2.1 B.kind hr' (by omega) (by omega) eb.2.1 eb.2.2 eb.1 F' N' ht' ⟨h0, H.D⟩
        (fun i t m₁ n₁ I oI h tk hi hJ hI htk F N => by
          rw [← Int.natCast_add] at F
          exact turn i _ m₁ n₁ I oI (TurnE C.g C.env.locals I oI (fun m n => J (i + 1) m n ∧ Dis n) (C.st h tk) Q') hi ⟨t, rfl⟩ hJ.1 ⟨fun h tk m' n' H hJ => TurnE.next H.F H.N H.D.head ⟨hJ, H.D.tail⟩, fun h tk m' n' ht H d => hn m' n' h tk d ht H, fun v s q => hr v s q⟩ h tk htk ⟨F, N, .cons hI hJ.2⟩)
        (fun h tk m₁ n₁ ht F N hJ => hn m₁ n₁ h tk (done m₁ n₁ hJ.1) ht ⟨F, N, hJ.2⟩)
    rcases r with ⟨v2, rfl, rfl, t2, rfl⟩ | ⟨v1, v2, b, rfl, ⟨t1, rfl⟩, ⟨t2, rfl⟩, eN, eb⟩
    · refine range1_rows (s := C.st h tk) H.F H.N ?_
      intro h' tk' t' u' v' hr' F' N' hk' ht'
      exact go hr' ⟨by omega, by omega, by omega⟩ F' N' ht'
    · refine range2_rows (s := C.st h tk) H.F H.N ?_
      intro h' tk' t' u' v' hr' F' N' hk' ht'
      exact go hr' ⟨by omega, by omega, by omega⟩ F' N' ht'))) k
/-- over a list that stands -/
theorem Bod.forList {l : List (Str × NameKind)} (B : Bod C l) {x : Str} {px pos : Pos} {e1 : Expr} {body rest : List Stmt} {a : Addr} {vs : List Value} (J : Nat → Mp → Led → Prop) (D : Mp → Led → Prop) (hx : locIn l x = true)
    {n0 : Led} (h1 : EvL C m n e1 fun n' v => n' = n0 ∧ v = .ref a) (hl : ∀ h, Hd C m n0 h → h.IsList a vs.toArray) (hL : a ≠ C.L) (hax : (∃ o, C.g.get? a = some o) ∨ ∃ o, ∀ i m n, J i m n → (a, o) ∈ n) (h0 : J 0 m n0)
    (turn : ∀ i v m₁ n₁ I oI Q', vs[i]? = some v → J i m₁ n₁ → TurnD C I oI (J (i + 1)) D Q Q' → Run C (upd m₁ x v) ((I, oI) :: n₁) body Q')
    (done : ∀ m₁ n₁, J vs.length m₁ n₁ → D m₁ n₁) (k : ∀ m₁ n₁, D m₁ n₁ → Run C m₁ n₁ rest Q)
    (hsf : ∀ v, foldedSetIterable e1 C.env v = pure v := by intro _; rfl) : Run C m n (.For (.Name x px) e1 body [] pos :: rest) Q :=
  .cut D (fun Q' hn hr hb h tk ht H => forT ht (pl (h1 h tk ht H) fun v h tk n' ht H e => by
    obtain ⟨rfl, rfl⟩ := e
    intro ht
    exact iterList (s := C.st h tk) (fun i m n => J i m n ∧ Dis n) B.cx.hh (B.loc hx).2.1 B.kind (hl h H) hL (hax.imp id fun ⟨o, ho⟩ => ⟨o, fun i m n hJ => ho i m n hJ.1⟩) H.F H.N ht ⟨h0, H.D⟩
      (fun i v m₁ n₁ I oI h tk hi hJ hI htk F N => turn i _ m₁ n₁ I oI (TurnE C.g C.env.locals I oI (fun m n => J (i + 1) m n ∧ Dis n) (C.st h tk) Q') hi hJ.1 ⟨fun h tk m' n' H hJ => TurnE.next H.F H.N H.D.head ⟨hJ, H.D.tail⟩, fun h tk m' n' ht H d => hn m' n' h tk d ht H, fun v s q => hr v s q⟩ h tk htk ⟨F, N, .cons hI hJ.2⟩)
      (fun h tk m₁ n₁ ht F N hJ => hn m₁ n₁ h tk (done m₁ n₁ hJ.1) ht ⟨F, N, hJ.2⟩)) hsf) k
/-- a while -/
structure TurnWD (C : Fc) (J : Nat → Mp → Led → Prop) (D : Mp → Led → Prop) (k : Nat) (Q Q' : Flow → Shared → Prop) : Prop where
  next : ∀ h tk m' n' k', Hd C m' n' h → k' < k → J k' m' n' → Q' .next (C.st h tk)
  brk : ∀ h tk m' n', 1 ≤ tk → Hd C m' n' h → D m' n' → Q' .brk (C.st h tk)
  ret : ∀ v s, Q (.ret v) s → Q' (.ret v) s
theorem TurnWD.run {J : Nat → Mp → Led → Prop} {D : Mp → Led → Prop} {k k' : Nat} {Q Q' : Flow → Shared → Prop} {m' : Mp} {n' : Led} (T : TurnWD C J D k Q Q') (hk : k' < k) (hJ : J k' m' n') : Run C m' n' [] Q' := .nil fun h tk ht H => T.next h tk m' n' k' H hk hJ
theorem Bod.while {l : List (Str × NameKind)} (B : Bod C l) {t : Expr} {pos : Pos} {body rest : List Stmt} (J : Nat → Mp → Led → Prop) (D : Mp → Led → Prop) (c : Nat → Prop) (k₀ : Nat) (h0 : J k₀ m n)
    (test : ∀ k m₁ n₁, J k m₁ n₁ → Tst C m₁ n₁ t (c k))
    (turn : ∀ k m₁ n₁ Q', J k m₁ n₁ → c k → TurnWD C J D k Q Q' → Run C m₁ n₁ body Q')
    (done : ∀ k m₁ n₁, J k m₁ n₁ → ¬ c k → D m₁ n₁) (k : ∀ m₁ n₁, D m₁ n₁ → Run C m₁ n₁ rest Q) : Run C m n (.While t body [] pos :: rest) Q :=
  .cut D (fun Q' hn hr hb h₀ tk₀ ht H => whileR (s := C.st h₀ tk₀) (fun k m n => J k m n ∧ Dis n) k₀ H.F H.N ht ⟨h0, H.D⟩ fun k m₁ n₁ h tk htk F N hJ =>
    bb (test k m₁ n₁ hJ.1 h tk htk ⟨F, N, hJ.2⟩) fun b h tk htk H hb => by
      cases b with
      | false =>
        rw [if_neg (by decide)]
        exact hn m₁ n₁ h tk (done k m₁ n₁ hJ.1 fun x => by have := hb.mpr x; cases this) htk H
      | true =>
        rw [if_pos rfl]
        exact turn k m₁ n₁ (TurnW C.g C.env.locals (fun k m n => J k m n ∧ Dis n) k (C.st h₀ tk₀) Q') hJ.1 (hb.mp rfl) ⟨fun h tk m' n' k' H hk hJ => ⟨h, tk, m', n', k', rfl, H.F, H.N, hk, hJ, H.D⟩, fun h tk m' n' ht H d => hn m' n' h tk d ht H, fun v s q => hr v s q⟩ h tk htk H) k
end
theorem enterD {prog : Program} {w : World} {A : Around} {s : Shared} {name qual : Str} {params : Arguments} {body : List Stmt} {scope : Scope} {dV kV doc pm cdv ct oc : Value} {an od : Option Addr} {osl : Array (Option Value)} {f : Addr} {args : List Value} {binds : List (Str × Value)}
    {P : Heap → Value → Prop} (C : Cx w A s.heap) (ht : 1 ≤ s.toks)
    (ho : (hd.heap_39 w.params).lookup f = some ⟨oc, od, .func (fnOf name qual params body scope dV kV doc pm an cdv ct), osl⟩) (hcd : codeIn (hd.heap_39 w.params) cdv qual = true) (hroom : A.depth < recursionLimit)
    (hbind : BindsTo s (fnOf name qual params body scope dV kV doc pm an cdv ct) ⟨args, []⟩ binds) (hloc : ∀ y ∈ binds, scope.names.lookup y.1 = some .local)
    (hcell : ∀ x ∈ scope.names, x.2 ≠ .cell) (hco : scope.isCoroutine = false) (hgen : scope.isGenerator = false) (hk : scope.kind = .function) (hkn : ∀ qual L f cdv x, (envOf qual scope L f cdv).kindOf x = scope.names.lookup x)
    (h : ∀ (C : Fc) (Q : Flow → Shared → Prop), C.prog = prog → C.w = w → C.A = A → C.g = s.heap → Bod C scope.names →
      (∀ v h m n tk, Hd C m n h → P h v → Q (.ret v) (C.st h tk)) → Run C (fun y => binds.reverse.lookup y) [] body Q) :
    Gives prog w A f args s P := by
  refine enter C ho hcd hroom hbind hloc hcell hco hgen hk ?_
  intro g L h₁ base fr p loose mean mg mb Q hg F N B X T ret
  subst hg
  exact h ⟨prog, w, A, qual, scope, L, f, cdv, s.gens, s.drawn, s.os, s.heap⟩ Q rfl rfl rfl rfl ⟨⟨C.hh, ⟨p, loose, mean, mg, mb, T⟩, X, base, fr, B⟩, hk, fun x => hkn _ _ _ _ x⟩ (fun v h' m n tk H hp => ret v h' m tk H.F hp) h₁ _ (Nat.le_add_right_of_le ht) ⟨F, N, .nil⟩
end Mine
end
-- MWs
section
open PySem PySem.W PyProof.Rows PySem.Calls
set_option maxRecDepth 100000
set_option Elab.async false
set_option linter.unusedVariables false
set_option maxHeartbeats 4000000
namespace Mine
theorem fillWs : PySem.Challenge.rw_wn0108_01 = PySem.Challenge.rw_wn0108_01 ∧ Mine.hd.heap_39 = Mine.hd.heap_39 := by
  k_fill
  exact ⟨rfl, rfl⟩
section
variable (w : World)
theorem ns_len : nsIn (hd.heap_39 w.params) mainGlobals "len" = some none := by k_is
theorem ns_max : nsIn (hd.heap_39 w.params) mainGlobals "max" = some none := by k_is
theorem ns_min : nsIn (hd.heap_39 w.params) mainGlobals "min" = some none := by k_is
theorem ns_range : nsIn (hd.heap_39 w.params) mainGlobals "range" = some none := by k_is
theorem ws_has : hasDictIn (hd.heap_39 w.params) 115 = true := by k_is
theorem ws_p1 : plainGet (hd.heap_39 w.params) 115 "n" = true := by k_is
theorem ws_p2 : plainGet (hd.heap_39 w.params) 115 "nt" = true := by k_is
theorem ws_p3 : plainGet (hd.heap_39 w.params) 115 "norm" = true := by k_is
theorem ws_p4 : plainGet (hd.heap_39 w.params) 115 "is_simple" = true := by k_is
theorem ws_p5 : plainGet (hd.heap_39 w.params) 115 "less" = true := by k_is
theorem ws_p6 : plainGet (hd.heap_39 w.params) 115 "equal" = true := by k_is
theorem ws_p7 : plainGet (hd.heap_39 w.params) 115 "indent_level" = true := by k_is
theorem ws_p8 : plainGet (hd.heap_39 w.params) 115 "longest_run_of_spaces" = true := by k_is
theorem ws_f1 : findIn (hd.heap_39 w.params) (.ref 115) "n" = some none := by k_is
theorem ws_f2 : findIn (hd.heap_39 w.params) (.ref 115) "nt" = some none := by k_is
theorem ws_f3 : findIn (hd.heap_39 w.params) (.ref 115) "norm" = some none := by k_is
theorem ws_f4 : findIn (hd.heap_39 w.params) (.ref 115) "is_simple" = some none := by k_is
theorem ws_f5 : findIn (hd.heap_39 w.params) (.ref 115) "less" = some (some (.ref 105)) := by k_is
theorem ws_f6 : findIn (hd.heap_39 w.params) (.ref 115) "equal" = some (some (.ref 91)) := by k_is
theorem ws_f7 : findIn (hd.heap_39 w.params) (.ref 115) "indent_level" = some (some (.ref 84)) := by k_is
theorem ws_f8 : findIn (hd.heap_39 w.params) (.ref 115) "longest_run_of_spaces" = some (some (.ref 77)) := by k_is
theorem ws_n0 : noGet (hd.heap_39 w.params) none = true := by k_is
theorem ws_i5 : isFn (hd.heap_39 w.params) (.ref 105) = true := by k_is
theorem ws_i6 : isFn (hd.heap_39 w.params) (.ref 91) = true := by k_is
theorem ws_i7 : isFn (hd.heap_39 w.params) (.ref 84) = true := by k_is
theorem ws_i8 : isFn (hd.heap_39 w.params) (.ref 77) = true := by k_is
theorem ws_k5 : keepIn (hd.heap_39 w.params) (.ref 105) = true := by k_is
theorem ws_k6 : keepIn (hd.heap_39 w.params) (.ref 91) = true := by k_is
theorem ws_k7 : keepIn (hd.heap_39 w.params) (.ref 84) = true := by k_is
theorem ws_k8 : keepIn (hd.heap_39 w.params) (.ref 77) = true := by k_is
end

/-- a Whitespace of the heap -/
structure WsAt (h : Heap) (a : Addr) (z : WS) : Prop where
  ex : ∃ ox es k nm tc vs t1 t3 t4, W.InstAt h a ox 115 (some (dictOf es k)) ∧ getL "n" es = some (some (.int (z.n : Int) t3)) ∧ getL "nt" es = some (some (.int (z.nt : Int) t4)) ∧ getL "norm" es = some (some (.ref nm)) ∧
    getL "is_simple" es = some (some (.bool (decide (z.count.length ≤ 1)))) ∧ getL "less" es = some none ∧ getL "equal" es = some none ∧ getL "indent_level" es = some none ∧ getL "longest_run_of_spaces" es = some none ∧
    IsTup h nm #[.ref tc, .int (z.b : Int) t1] ∧ IsTup h tc (List.toArray vs) ∧ IntsAre vs z.count
theorem InstAt.keep {h h' : Heap} {x C : Addr} {ox : Obj} {od : Option Obj} (I : W.InstAt h x ox C od) (k : Keep h h') : W.InstAt h' x ox C od := ⟨k _ _ I.at_, I.cls, I.no, by
  have := I.dict
  revert this
  cases ox.dict <;> cases od <;> simp only [imp_self]
  exact k _ _⟩
theorem WsAt.keep {h h' : Heap} {a : Addr} {z : WS} (x : WsAt h a z) (k : Keep h h') : WsAt h' a z := by
  obtain ⟨ox, es, j, nm, tc, vs, t1, t3, t4, I, e1, e2, e3, e4, e5, e6, e7, e8, i1, i2, i3⟩ := x.ex
  exact ⟨ox, es, j, nm, tc, vs, t1, t3, t4, InstAt.keep I k, e1, e2, e3, e4, e5, e6, e7, e8, i1.keeps k, i2.keeps k, i3⟩
theorem WsAt.of {w : World} {h : Heap} {a da nm tc : Addr} {x : Str} {z : WS} {vs : List Value} {k0 k1 k2 k3 k4 t1 t2 t3 t4 : Tok} (hl : ∀ q ∈ WsLed w a da nm tc x z vs k0 k1 k2 k3 k4 t1 t2 t3 t4, h.get? q.1 = some q.2) (hi : IntsAre vs z.count) : WsAt h a z :=
  ⟨_, _, _, nm, tc, vs, t1, t3, t4, ⟨hl _ (.tail _ (.tail _ (.head _))), rfl, rfl, hl _ (.tail _ (.tail _ (.tail _ (.head _))))⟩, by k_get, by k_get, by k_get, by
    rw [show decide (z.count.length ≤ 1) = decide ((z.count.length : Int) ≤ 1) from decide_eq_decide.mpr (by omega)]
    k_get, by k_get, by k_get, by k_get, by k_get, ⟨_, hl _ (.head _), rfl, _, rfl⟩, ⟨_, hl _ (.tail _ (.head _)), rfl, _, rfl⟩, hi⟩
end Mine
end
-- MWs2
section
open PySem PySem.W PyProof.Rows PySem.Calls
set_option maxRecDepth 100000
set_option Elab.async false
set_option linter.unusedVariables false
set_option maxHeartbeats 4000000
namespace Mine
theorem fillWs2 : PySem.Challenge.rw_wn0108_01 = PySem.Challenge.rw_wn0108_01 ∧ Mine.hd.heap_39 = Mine.hd.heap_39 := by
  k_fill
  exact ⟨rfl, rfl⟩
noncomputable def longestW (z : WS) : Nat := max (z.count.length - 1) z.b
noncomputable def ilW (ts : Nat) (count : List Int) : Nat → Int
  | 0 => 0
  | k + 1 => ilW ts count k + ((ts + k) / ts : Nat) * count.getD (ts + k) 0
noncomputable def levelW (z : WS) (ts : Nat) : Int := z.b + ts * (ilW ts z.count (z.count.length - ts) + z.nt)
noncomputable def lessW (a b : WS) : Bool := if b.n ≤ a.n then false else if a.count.length ≤ 1 ∧ b.count.length ≤ 1 then decide (a.nt ≤ b.nt) else (List.range (max (longestW a) (longestW b))).all fun i => decide (levelW a (2 + i) < levelW b (2 + i))
/-- a Whitespace of the ground -/
theorem ws_norm {C : Fc} {m : Mp} {n : Led} {l : List (Str × NameKind)} (B : Bod C l) {a : Addr} {z : WS} (hW : WsAt C.g a z) : ∃ nm tc vs t1, IsTup C.g nm #[.ref tc, .int (z.b : Int) t1] ∧ IsTup C.g tc (List.toArray vs) ∧ IntsAre vs z.count ∧
    ∀ {m n e p}, Ev C m n e (Is (.ref a)) → (eval (.Attribute e "norm" p) C.env = (do
      let o ← eval e C.env
      standAt p.atName
      let r ← holding [o] (getAttr o "norm" true)
      letTemporaryGo e o r
      pure r)) → Ev C m n (.Attribute e "norm" p) (Is (.ref nm)) := by
  obtain ⟨ox, es, j, nm, tc, vs, t1, t3, t4, I, e1, e2, e3, e4, e5, e6, e7, e8, i1, i2, i3⟩ := hW.ex
  exact ⟨nm, tc, vs, t1, i1, i2, i3, fun he h => B.attr he (fun h H => ⟨ox, es, j, _, InstAt.keep I H.F.keep, e3, rfl, rfl⟩) (ws_p3 _) (ws_has _) (ws_f3 _) (ws_n0 _) h⟩
theorem ws_attr {C : Fc} {l : List (Str × NameKind)} (B : Bod C l) {a : Addr} {z : WS} {m : Mp} {n : Led} (hW : ∀ h, Hd C m n h → WsAt h a z) {e : Expr} (he : Ev C m n e (Is (.ref a))) :
    (∀ {p}, (eval (.Attribute e "n" p) C.env = (do
      let o ← eval e C.env
      standAt p.atName
      let r ← holding [o] (getAttr o "n" true)
      letTemporaryGo e o r
      pure r)) → Ev C m n (.Attribute e "n" p) (IsI (z.n : Int))) ∧
    (∀ {p}, (eval (.Attribute e "nt" p) C.env = (do
      let o ← eval e C.env
      standAt p.atName
      let r ← holding [o] (getAttr o "nt" true)
      letTemporaryGo e o r
      pure r)) → Ev C m n (.Attribute e "nt" p) (IsI (z.nt : Int))) ∧
    (∀ {p}, (eval (.Attribute e "is_simple" p) C.env = (do
      let o ← eval e C.env
      standAt p.atName
      let r ← holding [o] (getAttr o "is_simple" true)
      letTemporaryGo e o r
      pure r)) → Ev C m n (.Attribute e "is_simple" p) (IsB (decide (z.count.length ≤ 1)))) :=
  ⟨fun h => B.attr he (fun h H => by
      obtain ⟨ox, es, j, nm, tc, vs, t1, t3, t4, I, e1, e2, e3, e4, e5, e6, e7, e8, i1, i2, i3⟩ := (hW h H).ex
      exact ⟨ox, es, j, _, I, e1, rfl, _, rfl⟩) (ws_p1 _) (ws_has _) (ws_f1 _) (ws_n0 _) h,
    fun h => B.attr he (fun h H => by
      obtain ⟨ox, es, j, nm, tc, vs, t1, t3, t4, I, e1, e2, e3, e4, e5, e6, e7, e8, i1, i2, i3⟩ := (hW h H).ex
      exact ⟨ox, es, j, _, I, e2, rfl, _, rfl⟩) (ws_p2 _) (ws_has _) (ws_f2 _) (ws_n0 _) h,
    fun h => B.attr he (fun h H => by
      obtain ⟨ox, es, j, nm, tc, vs, t1, t3, t4, I, e1, e2, e3, e4, e5, e6, e7, e8, i1, i2, i3⟩ := (hW h H).ex
      exact ⟨ox, es, j, _, I, e4, rfl, rfl⟩) (ws_p4 _) (ws_has _) (ws_f4 _) (ws_n0 _) h⟩

theorem longest_spec {prog : Program} {w : World} {A : Around} {s : Shared} (Cc : Cx w A s.heap) (R : Rm A 1) (ht : 1 ≤ s.toks) {a : Addr} {z : WS} (hW : WsAt s.heap a z) (hz : z.count.length ≤ 1000) :
    Gives prog w A 77 [.ref a] s (fun h r => IsI (longestW z : Int) r) := by
  refine enterD (binds := [("self", .ref a)]) Cc ht (by k_is) (by k_is) (by have := R.d; omega) (BindsTo.of_eq rfl) (locs rfl) (by decide) rfl rfl rfl (fun _ _ _ _ _ => rfl) ?_
  rintro C Q rfl rfl rfl hg B ret
  rw [← hg] at hW
  obtain ⟨nm, tc, vs, t1, i1, i2, i3, hn⟩ := ws_norm (m := fun _ => none) (n := []) B hW
  refine .unpack2 (B.loc rfl) (B.loc rfl) (hn (.name (B.loc rfl) rfl rfl) (by with_unfolding_all rfl)) (fun h H => i1.keeps H.F.keep) B.cx.hh ?_
  refine .ret (P := IsI (longestW z : Int)) (B.callB rfl (ns_max _) (by boot_fast) (by decide +kernel) (RA := fun n' vs => n' = [] ∧ ∃ v1 v2, vs = [v1, v2] ∧ IsI ((z.count.length : Int) - 1) v1 ∧ IsI (z.b : Int) v2)
    (.consP (.subI (B.lenT rfl (ns_len _) (.name (B.loc rfl) rfl rfl) (fun h H => ⟨vs, i2.keeps H.F.keep, i3.length⟩) (by omega)) .int) fun v1 h1 => .consP (.name (B.loc rfl) rfl ⟨_, rfl⟩) fun v2 h2 => .nil ⟨rfl, v1, v2, rfl, h1, h2⟩) ?_) fun v h tk p ht H => ret v h _ _ tk H p
  rintro n' vs h tk ⟨rfl, v1, v2, rfl, ⟨u1, rfl⟩, u2, rfl⟩ ht H
  refine wpAny_with_toks (n := 1) ht (max_two_N (s := C.st h tk) B.cx.hh H.F H.N fun h' tk' F' N' ht' => .mk ht' ⟨F', N', H.D⟩ ⟨_, congrArg (fun x => Value.int x _) ?_⟩)
  unfold longestW
  split <;> omega

theorem ilW_item {vs : List Value} {ns : List Int} (h : IntsAre vs ns) {i : Nat} (hi : i < ns.length) : ∃ v, vs[i]? = some v ∧ IsI (ns.getD i 0) v := by
  induction h generalizing i with
  | nil => simp at hi
  | cons n t _ ih =>
    cases i with
    | zero => exact ⟨_, rfl, t, rfl⟩
    | succ i =>
      obtain ⟨v, hv, hx⟩ := ih (i := i) (by simpa using hi)
      exact ⟨v, by simpa using hv, by simpa using hx⟩
noncomputable def IlJ (a tc : Addr) (z : WS) (ts : Nat) (tv : Value) (i : Nat) (m : Mp) (n : Led) : Prop :=
  n = [] ∧ m "self" = some (.ref a) ∧ m "tabsize" = some tv ∧ m "count" = some (.ref tc) ∧ (∃ v, m "trailing" = some v ∧ IsI (z.b : Int) v) ∧ ∃ v, m "il" = some v ∧ IsI (ilW ts z.count i) v
theorem level_spec {prog : Program} {w : World} {A : Around} {s : Shared} (Cc : Cx w A s.heap) (R : Rm A 1) (ht : 1 ≤ s.toks) {a : Addr} {z : WS} {ts : Nat} {tv : Value} (hts : IsI (ts : Int) tv) (hW : WsAt s.heap a z) (hz : z.count.length ≤ 1000) (h1 : 0 < ts) (h2 : ts ≤ 100000) :
    Gives prog w A 84 [.ref a, tv] s (fun h r => IsI (levelW z ts) r) := by
  refine enterD (binds := [("self", .ref a), ("tabsize", tv)]) Cc ht (by k_is) (by k_is) (by have := R.d; omega) (BindsTo.of_eq rfl) (locs rfl) (by decide) rfl rfl rfl (fun _ _ _ _ _ => rfl) ?_
  rintro C Q rfl rfl rfl hg B ret
  rw [← hg] at hW
  obtain ⟨nm, tc, vs, t1, i1, i2, i3, hn⟩ := ws_norm (m := fun _ => none) (n := []) B hW
  refine .unpack2 (B.loc rfl) (B.loc rfl) (hn (.name (B.loc rfl) rfl rfl) (by with_unfolding_all rfl)) (fun h H => i1.keeps H.F.keep) B.cx.hh ?_
  refine .assign (B.loc rfl) .int fun v0 h0 => ?_
  refine B.forUp (a := ts) (N := z.count.length - ts) (IlJ a tc z ts tv) (IlJ a tc z ts tv (z.count.length - ts)) rfl rfl (ns_range _) (.consP (P1 := IsI (ts : Int)) (.name (B.loc rfl) rfl hts) fun v1 h1 => .consP (P1 := IsI (z.count.length : Int)) (B.lenT rfl (ns_len _) (.name (B.loc rfl) rfl rfl) (fun h H => ⟨vs, i2.keeps H.F.keep, i3.length⟩) (by omega)) fun v2 h2 => .nil ⟨rfl, .inr ⟨v1, v2, _, rfl, h1, h2, rfl, by omega⟩⟩) (by omega) (by omega) ⟨rfl, rfl, rfl, rfl, ⟨_, rfl, _, rfl⟩, v0, rfl, h0⟩ ?_ (fun _ _ h => h) ?_
  · rintro i v m₁ n₁ I oI Q' hi hv ⟨rfl, e1, e2, e3, ⟨v4, e4, h4⟩, v5, e5, h5⟩ T
    obtain ⟨cv, hc, hcv⟩ := ilW_item i3 (i := ts + i) (by omega)
    refine .assign (B.loc rfl) (.addI (.name (B.loc rfl) e5 h5) (.mulI (.divN (.name (B.loc rfl) rfl hv) (.name (B.loc rfl) e2 hts) (by omega) (by omega)) (.itemTup (.name (B.loc rfl) e3 rfl) (.name (B.loc rfl) rfl hv) fun h H => ⟨vs, i2.keeps H.F.keep, by rw [i3.length]; omega, hc, hcv⟩) (Nat.lt_of_le_of_lt (Nat.div_le_self _ _) (by omega)))) fun v6 h6 => ?_
    exact T.run ⟨rfl, e1, e2, e3, ⟨v4, e4, h4⟩, v6, rfl, h6⟩
  · rintro m₁ n₁ ⟨rfl, e1, e2, e3, ⟨v4, e4, h4⟩, v5, e5, h5⟩
    exact .ret (.addI (.name (B.loc rfl) e4 h4) (.mulI (.name (B.loc rfl) e2 hts) (.addI (.name (B.loc rfl) e5 h5) ((ws_attr B (fun h H => hW.keep H.F.keep) (.name (B.loc rfl) e1 rfl)).2.1 (by with_unfolding_all rfl))) (by omega))) fun v h tk p ht H => ret v h _ _ tk H p

theorem eqv_ints (ns ms : List Int) (a b : Int) : PyData.eqv (.tuple [.tuple (ns.map .int), .int a]) (.tuple [.tuple (ms.map .int), .int b]) = decide (ns = ms ∧ a = b) := by
  simp only [PyData.eqv, PyData.eqvAll, ked_eqvAll, Bool.and_true]
  rw [Bool.eq_iff_iff]
  simp
theorem reads_ints {h : Heap} {vs : List Value} {ns : List Int} (x : IntsAre vs ns) : ReadsAll h vs (ns.map .int) [] := by
  induction x with
  | nil => exact .nil
  | cons n t _ ih => exact ReadsAll.cons (Reads.int n t) ih
theorem shaped_norm (ns : List Int) (b : Int) : SeqAt.shaped (.tuple [.tuple (ns.map .int), .int b]) = true := by
  simp [SeqAt.shaped, PyData.canLay0, PyData.canLayAll0, PyData.depth, PyData.depthAll, ke_canLayAll0, ke_depthAll]
noncomputable def sameW (a b : WS) : Bool := decide (a.count = b.count ∧ (a.b : Int) = (b.b : Int))
theorem equal_spec {prog : Program} {w : World} {A : Around} {s : Shared} (Cc : Cx w A s.heap) (R : Rm A 9) (ht : 1 ≤ s.toks) {a b : Addr} {z y : WS} (hW : WsAt s.heap a z) (hY : WsAt s.heap b y) :
    Gives prog w A 91 [.ref a, .ref b] s (fun h r => IsB (sameW z y) r) := by
  refine enterD (binds := [("self", .ref a), ("other", .ref b)]) Cc ht (by k_is) (by k_is) (by have := R.d; omega) (BindsTo.of_eq rfl) (locs rfl) (by decide) rfl rfl rfl (fun _ _ _ _ _ => rfl) ?_
  rintro C Q rfl rfl rfl hg B ret
  rw [← hg] at hW hY
  obtain ⟨nm, tc, vs, t1, i1, i2, i3, hn⟩ := ws_norm (m := fun _ => none) (n := []) B hW
  obtain ⟨nm', tc', vs', t1', j1, j2, j3, hn'⟩ := ws_norm (m := fun _ => none) (n := []) B hY
  have rd : ∀ {h : Heap} {nm tc : Addr} {vs : List Value} {b : Int} {t : Tok} {ns : List Int}, IsTup h nm #[.ref tc, .int b t] → IsTup h tc vs.toArray → IntsAre vs ns → ∃ as, Reads h (.ref nm) (.tuple [.tuple (ns.map .int), .int b]) as := by
    rintro h nm tc vs b t ns ⟨o, ho, hc, k, hd⟩ ⟨o', ho', hc', k', hd'⟩ hi
    exact ⟨_, reads_tuple_at ho hc hd (.cons (reads_tuple_at ho' hc' hd' (reads_ints hi)) (.cons (Reads.int _ _) .nil))⟩
  refine .ret (P := IsB (sameW z y)) (fun h tk ht H => ?_) fun v h tk p ht H => ret v h _ _ tk H p
  refine wpAny_Compare1 (pb (hn (.name (B.loc rfl) rfl rfl) (by with_unfolding_all rfl) h tk ht H) fun v h tk ht H e => pb (hn' (.name (B.loc rfl) rfl rfl) (by with_unfolding_all rfl) h tk ht H) fun v' h tk ht H e' => ?_)
  subst e e'
  obtain ⟨as, r1⟩ := rd (i1.keeps H.F.keep) (i2.keeps H.F.keep) i3
  obtain ⟨bs, r2⟩ := rd (j1.keeps H.F.keep) (j2.keeps H.F.keep) j3
  refine eq_dataH (s := C.st h tk) r1 r2 (shaped_norm _ _) (shaped_norm _ _) ?_ (.mk ht H ?_)
  · have := R.u
    show C.A.units + 3 + 64 < _
    omega
  · rw [eqv_ints]; rfl
end Mine
end
-- MWs3
section
open PySem PySem.W PyProof.Rows PySem.Calls
set_option maxRecDepth 100000
set_option Elab.async false
set_option linter.unusedVariables false
set_option maxHeartbeats 4000000
namespace Mine
theorem fillWs3 : PySem.Challenge.rw_wn0108_01 = PySem.Challenge.rw_wn0108_01 ∧ Mine.hd.heap_39 = Mine.hd.heap_39 := by
  k_fill
  exact ⟨rfl, rfl⟩
theorem Ev.bool {C : Fc} {m : Mp} {n : Led} {b : Bool} {k : Nat} {p : Pos} : Ev C m n (.Constant (.bool b) k p) (IsB b) := fun h tk ht H => wpAny_Constant_bool (.mk ht H rfl)
theorem Ev.leV {C : Fc} {m : Mp} {n : Led} {l r : Expr} {p : Pos} {a b : Int} (hl : Ev C m n l (IsI a)) (hr : Ev C m n r (IsI b)) (hb : behindInMarks .LtE r = false := by rfl) : Ev C m n (.Compare l [.LtE] [r] p) (IsB (decide (a ≤ b))) := fun h tk ht H =>
  wpAny_Compare1 (pb (hl h tk ht H) fun _ h tk ht H ⟨t, ea⟩ => pb (hr h tk ht H) fun _ h tk ht H ⟨u, eb⟩ => by subst ea eb; exact le_int (.mk ht H rfl)) hb
section
variable {C : Fc} {m : Mp} {n : Led} {l : List (Str × NameKind)} {e e1 : Expr} {p1 p2 : Pos} {a : Addr} {z : WS} (B : Bod C l)
include B
/-- the methods, called out of a frame where the object is of the heap -/
theorem ws_longest (R : Rm C.In 1) (hW : ∀ h, Hd C m n h → WsAt h a z) (hz : z.count.length ≤ 1000) (he : Ev C m n e (Is (.ref a))) {pl' : Sem Bool}
    (hc : eval (.Call (.Attribute e "longest_run_of_spaces" p1) [] [] p2) C.env = (do
      let ov ← eval e C.env
      standAt p1.atName
      let (f, first) ← holding [ov] (getMethod ov "longest_run_of_spaces" pl')
      callWith p2 f first (backTo p2 (starEach [] C.env)) [])) : Ev C m n (.Call (.Attribute e "longest_run_of_spaces" p1) [] [] p2) (IsI (longestW z : Int)) :=
  B.meth0 pl' he (fun h H => by
    obtain ⟨ox, es, j, nm, tc, vs, t1, t3, t4, I, e1, e2, e3, e4, e5, e6, e7, e8, i1, i2, i3⟩ := (hW h H).ex
    exact ⟨ox, es, j, I, e8⟩) (ws_p8 _) (ws_f8 _) (ws_i8 _) (ws_k8 _) (fun h tk ht H => (longest_spec (s := C.st h tk) (B.inner H) R ht (hW h H) hz).post ht H fun h' r p k => ⟨rfl, p⟩) hc
theorem ws_level (R : Rm C.In 1) (hW : ∀ h, Hd C m n h → WsAt h a z) (hz : z.count.length ≤ 1000) {ts : Nat} (h1 : 0 < ts) (h2 : ts ≤ 100000) (he : Ev C m n e (Is (.ref a))) (hts : Ev C m n e1 (IsI (ts : Int))) {pl' : Sem Bool}
    (hs : starEach [e1] C.env = (false, eval e1 C.env) :: starEach [] C.env)
    (hc : eval (.Call (.Attribute e "indent_level" p1) [e1] [] p2) C.env = (do
      let ov ← eval e C.env
      standAt p1.atName
      let (f, first) ← holding [ov] (getMethod ov "indent_level" pl')
      callWith p2 f first (backTo p2 (starEach [e1] C.env)) [])) : Ev C m n (.Call (.Attribute e "indent_level" p1) [e1] [] p2) (IsI (levelW z ts)) :=
  B.meth1 pl' he hts (fun h H => by
    obtain ⟨ox, es, j, nm, tc, vs, t1, t3, t4, I, e1, e2, e3, e4, e5, e6, e7, e8, i1, i2, i3⟩ := (hW h H).ex
    exact ⟨ox, es, j, I, e7⟩) (ws_p7 _) (ws_f7 _) (ws_i7 _) (ws_k7 _) (fun v h tk hv ht H => (level_spec (s := C.st h tk) (B.inner H) R ht hv (hW h H) hz h1 h2).post ht H fun h' r p k => ⟨rfl, p⟩) hs hc
end
noncomputable def LeJ (a b : Addr) (z y : WS) (i : Nat) (m : Mp) (n : Led) : Prop := n = [] ∧ m "self" = some (.ref a) ∧ m "other" = some (.ref b) ∧ ∀ k, k < i → levelW z (2 + k) < levelW y (2 + k)
theorem less_spec {prog : Program} {w : World} {A : Around} {s : Shared} (Cc : Cx w A s.heap) (R : Rm A 2) (ht : 1 ≤ s.toks) {a b : Addr} {z y : WS} (hW : WsAt s.heap a z) (hY : WsAt s.heap b y) (hz : z.count.length ≤ 1000 ∧ z.b ≤ 1000) (hy : y.count.length ≤ 1000 ∧ y.b ≤ 1000) :
    Gives prog w A 105 [.ref a, .ref b] s (fun h r => IsB (lessW z y) r) := by
  refine enterD (binds := [("self", .ref a), ("other", .ref b)]) Cc ht (by k_is) (by k_is) (by have := R.d; omega) (BindsTo.of_eq rfl) (locs rfl) (by decide) rfl rfl rfl (fun _ _ _ _ _ => rfl) ?_
  rintro C Q rfl rfl rfl hg B ret
  rw [← hg] at hW hY
  have ret' : ∀ {e p rest m n q}, Ev C m n e (IsB q) → lessW z y = q → Run C m n (.Return (some e) p :: rest) Q := fun he hq => .ret he fun v h tk p ht H => ret v h _ _ tk H (hq ▸ p)
  refine .if (.geI ((ws_attr B (fun h H => hW.keep H.F.keep) (.name (B.loc rfl) rfl rfl)).1 (by with_unfolding_all rfl)) ((ws_attr B (fun h H => hY.keep H.F.keep) (.name (B.loc rfl) rfl rfl)).1 (by with_unfolding_all rfl))) (fun hge => ?_) fun hge => ?_
  · refine .ret (P := IsB false) .bool fun v h tk p ht H => ret v h _ _ tk H ?_
    rw [lessW, if_pos (by omega)]; exact p
  refine .on ?_
  have hge' : ¬ y.n ≤ z.n := by omega
  refine .if (.and2 (.bool ((ws_attr B (fun h H => hW.keep H.F.keep) (.name (B.loc rfl) rfl rfl)).2.2 (by with_unfolding_all rfl))) fun _ => .bool ((ws_attr B (fun h H => hY.keep H.F.keep) (.name (B.loc rfl) rfl rfl)).2.2 (by with_unfolding_all rfl))) (fun hs => ?_) fun hs => ?_
  · refine .ret (.leV ((ws_attr B (fun h H => hW.keep H.F.keep) (.name (B.loc rfl) rfl rfl)).2.1 (by with_unfolding_all rfl)) ((ws_attr B (fun h H => hY.keep H.F.keep) (.name (B.loc rfl) rfl rfl)).2.1 (by with_unfolding_all rfl))) fun v h tk p ht H => ret v h _ _ tk H ?_
    rw [lessW, if_neg hge', if_pos (by simpa using hs)]
    rw [show decide (z.nt ≤ y.nt) = decide ((z.nt : Int) ≤ (y.nt : Int)) from decide_eq_decide.mpr (by omega)]
    exact p
  refine .on ?_
  have hs' : ¬ (z.count.length ≤ 1 ∧ y.count.length ≤ 1) := by simpa using hs
  have hW' : ∀ {m n}, ∀ h, Hd C m n h → WsAt h a z := fun h H => hW.keep H.F.keep
  have hY' : ∀ {m n}, ∀ h, Hd C m n h → WsAt h b y := fun h H => hY.keep H.F.keep
  have hN : max (longestW z) (longestW y) ≤ 1000 := by unfold longestW; omega
  refine .assign (P := IsI ((max (longestW z) (longestW y) + 1 : Nat) : Int)) (B.loc rfl) (.weak (.addI (.weak (P := IsI ((max (longestW z) (longestW y) : Nat) : Int)) (B.callB rfl (ns_max _) (by boot_fast) (by decide +kernel) (RA := fun n' vs => n' = [] ∧ ∃ v1 v2, vs = [v1, v2] ∧ IsI (longestW z : Int) v1 ∧ IsI (longestW y : Int) v2)
    (.consP (ws_longest B R.inner hW' hz.1 (.name (B.loc rfl) rfl rfl) (by rfl)) fun v1 h1 => .consP (ws_longest B R.inner hY' hy.1 (.name (B.loc rfl) rfl rfl) (by rfl)) fun v2 h2 => .nil ⟨rfl, v1, v2, rfl, h1, h2⟩) ?_) fun _ h => h) .int) fun v h => h.of (by omega)) fun v0 h0 => ?_
  · rintro n' vs h tk ⟨rfl, v1, v2, rfl, ⟨u1, rfl⟩, u2, rfl⟩ ht H
    refine wpAny_with_toks (n := 1) ht (max_two_N (s := C.st h tk) B.cx.hh H.F H.N fun h' tk' F' N' ht' => .mk ht' ⟨F', N', H.D⟩ ⟨_, congrArg (fun x => Value.int x _) ?_⟩)
    split <;> omega
  refine B.forUp (a := 2) (N := max (longestW z) (longestW y)) (LeJ a b z y) (LeJ a b z y (max (longestW z) (longestW y))) rfl rfl (ns_range _) (.consP (P1 := IsI ((2 : Nat) : Int)) .int fun v1 h1 => .consP (P1 := IsI ((max (longestW z) (longestW y) + 1 + 1 : Nat) : Int)) (.addI (.name (B.loc rfl) rfl h0) .int) fun v2 h2 => .nil ⟨rfl, .inr ⟨v1, v2, _, rfl, h1, h2, by omega, by omega⟩⟩) (by omega) (by omega) ⟨rfl, rfl, rfl, fun k hk => absurd hk (Nat.not_lt_zero k)⟩ ?_ (fun _ _ h => h) ?_
  · rintro i v m₁ n₁ I oI Q' hi hv ⟨rfl, e1, e2, hall⟩ T
    refine .if (.geI (ws_level B (R.inner) hW' hz.1 (by omega) (by omega) (.name (B.loc rfl) e1 rfl) (.name (B.loc rfl) rfl hv) rfl (by rfl)) (ws_level B (R.inner) hY' hy.1 (by omega) (by omega) (.name (B.loc rfl) e2 rfl) (.name (B.loc rfl) rfl hv) rfl (by rfl))) (fun hge => ?_) fun hge => ?_
    · refine .ret (P := IsB false) .bool fun v h tk p ht H => T.ret v _ (ret v h _ _ tk H ?_)
      have : lessW z y = false := by
        rw [lessW, if_neg hge', if_neg hs']
        refine List.all_eq_false.mpr ⟨i, List.mem_range.mpr hi, ?_⟩
        simp; omega
      rw [this]; exact p
    · refine .on (T.run ⟨rfl, e1, e2, fun k hk => ?_⟩)
      by_cases hki : k = i
      · subst hki; omega
      · exact hall k (by omega)
  · rintro m₁ n₁ ⟨rfl, e1, e2, hall⟩
    refine .ret (P := IsB true) .bool fun v h tk p ht H => ret v h _ _ tk H ?_
    have : lessW z y = true := by
      rw [lessW, if_neg hge', if_neg hs']
      refine List.all_eq_true.mpr fun i hi => ?_
      simpa using hall i (List.mem_range.mp hi)
    rw [this]; exact p
end Mine
end
-- MMake
section
open PySem PySem.W PyProof.Rows PySem.Calls
set_option maxRecDepth 100000
set_option Elab.async false
set_option linter.unusedVariables false
set_option maxHeartbeats 4000000
namespace Mine
theorem fillMk : PySem.Challenge.rw_wn0108_01 = PySem.Challenge.rw_wn0108_01 ∧ Mine.hd.heap_39 = Mine.hd.heap_39 := by
  k_fill
  exact ⟨rfl, rfl⟩
section
variable (w : World)
theorem ns_Ws : nsIn (hd.heap_39 w.params) mainGlobals "Whitespace" = some (some (.ref 115)) := by k_is
theorem keep_Ws : keepIn (hd.heap_39 w.params) (.ref 115) = true := by k_is
theorem makes_Ws : makesIn (hd.heap_39 w.params) 115 = true := by k_is
theorem init_Ws : findIn (hd.heap_39 w.params) (.ref 115) "__init__" = some (some (.ref 70)) := by k_is
theorem fn_init : isFn (hd.heap_39 w.params) (.ref 70) = true := by k_is
end
theorem Rm.make {A : Around} {n : Nat} {C : Addr} {vals : List Value} (R : Rm A (n + 1)) : Rm (A.under (.builtin "type.__call__" ⟨.ref C :: vals, []⟩)) n :=
  ⟨by have := R.d; show A.depth + 1 + n < _; omega, by have := R.u; show A.units + 1 + 8 * n < _; omega⟩
noncomputable def scan0 (x : List Nat) : WS := scan x ⟨[], 0, 0, 0⟩
/-- a Whitespace of the ledger -/
noncomputable def WsIn (w : World) (n : Led) (a : Addr) (z : WS) : Prop := ∃ da nm tc x vs k0 k1 k2 k3 k4 t1 t2 t3 t4, (∀ q ∈ WsLed w a da nm tc x z vs k0 k1 k2 k3 k4 t1 t2 t3 t4, q ∈ n) ∧ IntsAre vs z.count
theorem WsIn.mono {w : World} {n n' : Led} {a : Addr} {z : WS} (x : WsIn w n a z) (k : ∀ q ∈ n, q ∈ n') : WsIn w n' a z := by
  obtain ⟨da, nm, tc, y, vs, k0, k1, k2, k3, k4, t1, t2, t3, t4, hl, hi⟩ := x
  exact ⟨da, nm, tc, y, vs, k0, k1, k2, k3, k4, t1, t2, t3, t4, fun q hq => k q (hl q hq), hi⟩
theorem WsIn.at {w : World} {n : Led} {a : Addr} {z : WS} {h : Heap} (x : WsIn w n a z) (N : ∀ q ∈ n, h.get? q.1 = some q.2) : WsAt h a z := by
  obtain ⟨da, nm, tc, y, vs, k0, k1, k2, k3, k4, t1, t2, t3, t4, hl, hi⟩ := x
  exact .of (fun q hq => N q (hl q hq)) hi
theorem ints_no_ref {vs : List Value} {ns : List Int} {a : Addr} {r : List Value} (h : IntsAre vs ns) : vs ≠ .ref a :: r := by
  rintro rfl; cases h
theorem ws_dis {w : World} {h : Heap} {a da nm tc : Addr} {x : Str} {z : WS} {vs : List Value} {k0 k1 k2 k3 k4 t1 t2 t3 t4 : Tok} (hl : ∀ q ∈ WsLed w a da nm tc x z vs k0 k1 k2 k3 k4 t1 t2 t3 t4, h.get? q.1 = some q.2) (hi : IntsAre vs z.count) :
    Dis (WsLed w a da nm tc x z vs k0 k1 k2 k3 k4 t1 t2 t3 t4) := by
  have g1 := hl _ (.head _)
  have g2 := hl _ (.tail _ (.head _))
  have g3 := hl _ (.tail _ (.tail _ (.head _)))
  have g4 := hl _ (.tail _ (.tail _ (.tail _ (.head _))))
  have ne : ∀ {p q : Addr} {o o' : Obj}, h.get? p = some o → h.get? q = some o' → o ≠ o' → q ≠ p := fun e e' hn hq => hn (by rw [hq] at e'; rw [e] at e'; exact Option.some.inj e')
  refine .cons ?_ (.cons ?_ (.cons ?_ (.cons (fun _ h => nomatch h) .nil)))
  · intro q hq
    rcases List.mem_cons.mp hq with rfl | hq
    · refine ne g1 g2 fun e => ?_
      have e1 : Data.seq #[Value.ref tc, Value.int (z.b : Int) t1] 0 = Data.seq vs.toArray 0 := congrArg Obj.data e
      have e2 : #[Value.ref tc, Value.int (z.b : Int) t1] = vs.toArray := by injection e1
      exact ints_no_ref hi (a := tc) (r := [.int (z.b : Int) t1]) (congrArg Array.toList e2).symm
    · rcases List.mem_cons.mp hq with rfl | hq
      · exact ne g1 g3 fun e => by have := congrArg Obj.cls e; cases this
      · rcases List.mem_cons.mp hq with rfl | hq
        · exact ne g1 g4 fun e => by have := congrArg Obj.cls e; exact tup_ne_dict this
        · cases hq
  · intro q hq
    rcases List.mem_cons.mp hq with rfl | hq
    · exact ne g2 g3 fun e => by have := congrArg Obj.cls e; cases this
    · rcases List.mem_cons.mp hq with rfl | hq
      · exact ne g2 g4 fun e => by have := congrArg Obj.cls e; exact tup_ne_dict this
      · cases hq
  · intro q hq
    rcases List.mem_cons.mp hq with rfl | hq
    · exact ne g3 g4 fun e => by have := congrArg Obj.cls e; cases this
    · cases hq
theorem fr_hide {g h : Heap} {L : Addr} {m : Str → Option Value} {news : List (Addr × Obj)} (F : Fr g L h m) (N : News g L h news) : Fr g L (hideAll h (news.map (·.1))) m := by
  have nm : ∀ b o, g.get? b = some o → b ∉ news.map (·.1) := fun b o e q => by
    obtain ⟨p, hp, rfl⟩ := List.mem_map.mp q
    rw [(N p hp).2.2] at e; cases e
  have nL : L ∉ news.map (·.1) := fun q => by
    obtain ⟨p, hp, e⟩ := List.mem_map.mp q
    exact (N p hp).2.1 e
  refine ⟨?_, fun b o e => hideAll_get _ (F.keep b o e) (nm b o e), F.above⟩
  obtain ⟨o, es, ep, ho, r⟩ := F.ns
  exact ⟨o, es, ep, hideAll_get _ ho nL, r⟩
/-- Whitespace(e) -/
theorem ev_ws {C : Fc} {m : Mp} {n : Led} {l : List (Str × NameKind)} (B : Bod C l) (hG : glbIn l "Whitespace" = true) (R : Rm C.In 2) {e1 : Expr} {p q : Pos} {x : List Nat} (h1 : Ev C m n e1 (IsS x)) (hx : x.length ≤ 10000)
    (hs : starEach [e1] C.env = (false, eval e1 C.env) :: starEach [] C.env) :
    EvL C m n (.Call (.Name "Whitespace" p) [e1] [] q) fun n' v => ∃ a led, v = .ref a ∧ n' = led ++ n ∧ WsIn C.w led a (scan0 x) :=
  B.call hG (ns_Ws _) (keep_Ws _) (RA := fun n' vs => n' = n ∧ ∃ v, vs = [v] ∧ IsS x v) (.consP h1 (fun v hv => .nil ⟨rfl, v, rfl, hv⟩) hs)
    (by
      rintro n' vs h tk ⟨en, v, rfl, t, rfl⟩ ht H
      rw [en] at H
      refine wpAny_with_toks (n := 1) ht (call_cls (s := C.st h tk) H.F B.cx.kin H.N (makes_Ws _) (init_Ws _) (fn_init _) ?_)
      intro a da h' F' N' hlt1 hlt2
      have N2 : News C.g C.L h' [(a, instObj 115 da), (da, dictOf [] 0)] := fun q hq => by
        rcases List.mem_cons.mp hq with rfl | hq
        · exact N' _ (.head _)
        · exact N' _ (.tail _ (by rw [List.mem_singleton.mp hq]; exact .head _))
      have N3 : News C.g C.L h' n := fun q hq => N' _ (.tail _ (.tail _ hq))
      have hna : ∀ q ∈ n, q.1 ∉ [a, da] := fun q hq hm => by
        have l1 := hlt1 q hq
        rcases List.mem_cons.mp hm with e | hm
        · rw [e] at l1; exact absurd (Nat.lt_trans l1 hlt2) (Nat.lt_irrefl _)
        · rw [List.mem_singleton.mp hm] at l1; exact absurd l1 (Nat.lt_irrefl _)
      obtain ⟨hh, ⟨p, loose, mean, mg, mb, T⟩, X, base, fr, Bl⟩ := B.cx
      have C0 : Cx C.w C.In (hideAll h' [a, da]) := Cx.innerN hh Bl F' N2 X T rfl B.kind
      have F0 : Fr C.g C.L (hideAll h' [a, da]) m := fr_hide F' N2
      refine init_code (s := C.st h' tk) (g₀ := hideAll h' [a, da]) (C0.make _) (fun b o e => of_hideAll _ e) ?_ R.make ht hx hlt2 ?_
      · intro q hq
        refine ⟨(N2 q hq).1, hideAll_none _ ?_⟩
        rcases List.mem_cons.mp hq with rfl | hq
        · exact .head _
        · rw [List.mem_singleton.mp hq]; exact .tail _ (.head _)
      · intro h2 tk2 nm tc vs k0 k1 k2 k3 k4 t1 t2 t3 t4 K2 hl hi
        refine ⟨rfl, fun ht2 => .mkL ht2 (n' := WsLed C.w a da nm tc (S x) (scan0 x) vs k0 k1 k2 k3 k4 t1 t2 t3 t4 ++ n) ⟨F0.after K2, ?_, ?_⟩ ⟨a, _, rfl, rfl, da, nm, tc, S x, vs, k0, k1, k2, k3, k4, t1, t2, t3, t4, fun q hq => hq, hi⟩⟩
        · intro q hq
          rcases List.mem_append.mp hq with hq | hq
          · obtain ⟨g1, g2⟩ := hl q hq
            refine ⟨g1, fun e => ?_, kts_none F0.keep g2⟩
            obtain ⟨o, es, ep, ho, _⟩ := F0.ns
            rw [e, ho] at g2; cases g2
          · exact ⟨K2 _ _ (hideAll_get _ (N3 q hq).1 (hna q hq)), (N3 q hq).2⟩
        · refine .app (ws_dis (fun q hq => (hl q hq).1) hi) H.D fun p hp q hq e => ?_
          have g2 := (hl p hp).2
          rw [← e, hideAll_get _ (N3 q hq).1 (hna q hq)] at g2
          cases g2) hs
end Mine
end
-- MSeen
section
open PySem PySem.W PyProof.Rows PySem.Calls
set_option maxRecDepth 100000
set_option Elab.async false
set_option linter.unusedVariables false
set_option maxHeartbeats 4000000
namespace Mine
theorem fillSn : PySem.Challenge.rw_wn0108_01 = PySem.Challenge.rw_wn0108_01 ∧ Mine.hd.heap_39 = Mine.hd.heap_39 := by
  k_fill
  exact ⟨rfl, rfl⟩
theorem scan_le : ∀ (x : List Nat) (z : WS), (scan x z).n ≤ z.n + x.length ∧ (scan x z).b ≤ z.b + x.length ∧ (scan x z).count.length ≤ max z.count.length (z.b + x.length + 1)
  | [], z => by simp only [scan, List.length_nil]; omega
  | c :: r, z => by
    rw [scan, List.length_cons]
    split
    · have := scan_le r ⟨z.count, z.b + 1, z.n + 1, z.nt⟩
      simp only at this
      omega
    · split
      · have := scan_le r ⟨bump z.count z.b, 0, z.n + 1, z.nt + 1⟩
        have h2 : (bump z.count z.b).length ≤ max z.count.length (z.b + 1) := by
          rw [bump, List.length_set]; exact grow_le _ _
        simp only at this
        omega
      · omega
theorem scan0_le {x : List Nat} (h : x.length ≤ 900) : (scan0 x).count.length ≤ 1000 ∧ (scan0 x).b ≤ 1000 ∧ (scan0 x).n ≤ 1000 := by
  have := scan_le x ⟨[], 0, 0, 0⟩
  simp only [List.length_nil] at this
  unfold scan0
  omega
/-- the pile, its top first -/
noncomputable def popR (z : WS) : List WS → List WS
  | [] => []
  | t :: r => if sameW t z = true then t :: r else popR z r
noncomputable def stepR (z : WS) : List WS → List WS
  | [] => [z]
  | t :: r => if lessW t z = true then z :: t :: r else popR z (t :: r)
noncomputable def seenR (size : Nat) : List (List Nat) → List WS → List (Int × List Nat × Int)
  | [], _ => []
  | x :: r, rp => (((stepR (scan0 x) rp).length : Int) - 1, x.drop (scan0 x).n, levelW (scan0 x) size) :: seenR size r (stepR (scan0 x) rp)
noncomputable def seenD (t : Int × List Nat × Int) : PyData := .tuple [.int t.1, .str (S t.2.1), .int t.2.2]
theorem popR_le (z : WS) : ∀ r : List WS, (popR z r).length ≤ r.length
  | [] => Nat.le_refl _
  | t :: r => by
    rw [popR]
    split
    · exact Nat.le_refl _
    · exact Nat.le_succ_of_le (popR_le z r)
theorem stepR_le (z : WS) (r : List WS) : (stepR z r).length ≤ r.length + 1 := by
  cases r with
  | nil => exact Nat.le_refl _
  | cons t r =>
    rw [stepR]
    split
    · exact Nat.le_refl _
    · exact Nat.le_succ_of_le (popR_le z _)
inductive PileIn (w : World) (n : Led) : List Value → List WS → Prop
  | nil : PileIn w n [] []
  | cons {a : Addr} {z : WS} {vs : List Value} {zs : List WS} : WsIn w n a z → z.count.length ≤ 1000 ∧ z.b ≤ 1000 → PileIn w n vs zs → PileIn w n (.ref a :: vs) (z :: zs)
theorem PileIn.mono {w : World} {n n' : Led} (k : ∀ q ∈ n, q ∈ n') : ∀ {vs : List Value} {zs : List WS}, PileIn w n vs zs → PileIn w n' vs zs
  | _, _, .nil => .nil
  | _, _, .cons a b r => .cons (a.mono k) b (r.mono k)
theorem PileIn.length {w : World} {n : Led} : ∀ {vs : List Value} {zs : List WS}, PileIn w n vs zs → vs.length = zs.length
  | _, _, .nil => rfl
  | _, _, .cons _ _ r => congrArg (· + 1) r.length
inductive SeenIn (n : Led) : List Value → List (Int × List Nat × Int) → Prop
  | nil : SeenIn n [] []
  | snoc {D : Addr} {d l : Int} {x : List Nat} {v1 v2 v3 : Value} {vs : List Value} {so : List (Int × List Nat × Int)} : SeenIn n vs so → (D, ({ cls := .type "tuple", data := .seq #[v1, v2, v3] } : Obj)) ∈ n → IsI d v1 → IsS x v2 → IsI l v3 → SeenIn n (vs ++ [.ref D]) (so ++ [(d, x, l)])
theorem SeenIn.mono {n n' : Led} (k : ∀ q ∈ n, q ∈ n') : ∀ {vs : List Value} {so : List (Int × List Nat × Int)}, SeenIn n vs so → SeenIn n' vs so
  | _, _, .nil => .nil
  | _, _, .snoc r a b c d => .snoc (r.mono k) (k _ a) b c d
theorem SeenIn.length {n : Led} : ∀ {vs : List Value} {so : List (Int × List Nat × Int)}, SeenIn n vs so → vs.length = so.length
  | _, _, .nil => rfl
  | _, _, .snoc r _ _ _ _ => by rw [List.length_append, List.length_append, r.length]; rfl
theorem readsAll_app {h : Heap} : ∀ {vs ws : List Value} {xs ys : List PyData} {as bs : List Addr}, ReadsAll h vs xs as → ReadsAll h ws ys bs → ∃ cs, ReadsAll h (vs ++ ws) (xs ++ ys) cs
  | _, _, _, _, _, _, .nil, y => ⟨_, y⟩
  | _, _, _, _, _, _, .cons a r, y => let ⟨cs, h⟩ := readsAll_app r y; ⟨_, .cons a h⟩
theorem SeenIn.reads {n : Led} {h : Heap} (N : ∀ q ∈ n, h.get? q.1 = some q.2) : ∀ {vs : List Value} {so : List (Int × List Nat × Int)}, SeenIn n vs so → ∃ as, ReadsAll h vs (so.map seenD) as
  | _, _, .nil => ⟨_, .nil⟩
  | _, _, .snoc r a ⟨t1, e1⟩ ⟨t2, e2⟩ ⟨t3, e3⟩ => by
    subst e1 e2 e3
    obtain ⟨as, ih⟩ := r.reads N
    rw [List.map_append]
    exact readsAll_app ih (.cons (reads_tuple_at (N _ a) rfl rfl (.cons (Reads.int _ _) (.cons (Reads.str _ _) (.cons (Reads.int _ _) .nil)))) .nil)
noncomputable def Strs (vs : List Value) (xs : List (List Nat)) : Prop := vs.length = xs.length ∧ ∀ (i : Nat) v, vs[i]? = some v → ∃ x, xs[i]? = some x ∧ IsS x v

noncomputable def SnJ (w : World) (ln : Addr) (sv : Value) (size : Nat) (lines : List (List Nat)) (i : Nat) (m : Mp) (n : Led) : Prop :=
  ∃ Pi Sn rv rp np ws so ns rest, n = (Pi, W.listOf (List.reverse rv).toArray np) :: (Sn, W.listOf (List.toArray ws) ns) :: rest ∧ PileIn w rest rv rp ∧ SeenIn rest ws so ∧ m "lines" = some (.ref ln) ∧ m "size" = some sv ∧ m "pile" = some (.ref Pi) ∧ m "seen" = some (.ref Sn) ∧
    so ++ seenR size (lines.drop i) rp = seenR size lines [] ∧ rp.length ≤ i ∧ so.length = i
theorem pl_line {lines : List (List Nat)} {i : Nat} {x : List Nat} (h : lines[i]? = some x) : lines.drop i = x :: lines.drop (i + 1) := by
  obtain ⟨hi, e⟩ := List.getElem?_eq_some_iff.mp h
  rw [← e]; exact List.drop_eq_getElem_cons hi
noncomputable def rpOf (rp0 : List WS) (k : Nat) : List WS := rp0.drop (rp0.length - k)
theorem rpOf_cons {rp0 : List WS} {k : Nat} {t : WS} {r : List WS} (h : rpOf rp0 k = t :: r) (hk : k ≤ rp0.length) : 0 < k ∧ rpOf rp0 (k - 1) = r := by
  have hl := congrArg List.length h
  rw [rpOf, List.length_drop, List.length_cons] at hl
  refine ⟨by omega, ?_⟩
  have : rp0.length - (k - 1) = (rp0.length - k) + 1 := by omega
  rw [rpOf, this, ← List.drop_drop, show rp0.drop (rp0.length - k) = t :: r from h]
  rfl
/-- what the inner loop keeps -/
noncomputable def PoJ (w : World) (base : Led) (Pi : Addr) (tail : Led) (m0 : Mp) (z : WS) (rp0 : List WS) (k : Nat) (m : Mp) (n : Led) : Prop :=
  m = m0 ∧ k ≤ rp0.length ∧ ∃ rv np, n = (Pi, W.listOf (List.reverse rv).toArray np) :: tail ∧ PileIn w base rv (rpOf rp0 k) ∧ popR z (rpOf rp0 k) = popR z rp0
noncomputable def PoD (w : World) (base : Led) (Pi : Addr) (tail : Led) (m0 : Mp) (z : WS) (rp0 : List WS) (m : Mp) (n : Led) : Prop :=
  m = m0 ∧ ∃ rv np, n = (Pi, W.listOf (List.reverse rv).toArray np) :: tail ∧ PileIn w base rv (popR z rp0)

section
variable {C : Fc} {m : Mp} {n : Led} {l : List (Str × NameKind)} {e e1 : Expr} {p1 p2 : Pos} {a b : Addr} {z y : WS} (B : Bod C l)
include B
theorem ws_less (R : Rm C.In 2) (hW : ∀ h, Hd C m n h → WsAt h a z) (hY : ∀ h, Hd C m n h → WsAt h b y) (hz : z.count.length ≤ 1000 ∧ z.b ≤ 1000) (hy : y.count.length ≤ 1000 ∧ y.b ≤ 1000) (he : Ev C m n e (Is (.ref a))) (h1 : Ev C m n e1 (Is (.ref b))) {pl' : Sem Bool}
    (hs : starEach [e1] C.env = (false, eval e1 C.env) :: starEach [] C.env)
    (hc : eval (.Call (.Attribute e "less" p1) [e1] [] p2) C.env = (do
      let ov ← eval e C.env
      standAt p1.atName
      let (f, first) ← holding [ov] (getMethod ov "less" pl')
      callWith p2 f first (backTo p2 (starEach [e1] C.env)) [])) : Ev C m n (.Call (.Attribute e "less" p1) [e1] [] p2) (IsB (lessW z y)) :=
  B.meth1 pl' he h1 (fun h H => by
    obtain ⟨ox, es, j, nm, tc, vs, t1, t3, t4, I, e1, e2, e3, e4, e5, e6, e7, e8, i1, i2, i3⟩ := (hW h H).ex
    exact ⟨ox, es, j, I, e5⟩) (ws_p5 _) (ws_f5 _) (ws_i5 _) (ws_k5 _) (fun v h tk hv ht H => by
      subst hv
      exact (less_spec (s := C.st h tk) (B.inner H) R ht (hW h H) (hY h H) hz hy).post ht H fun h' r p k => ⟨rfl, p⟩) hs hc
theorem ws_equal (R : Rm C.In 9) (hW : ∀ h, Hd C m n h → WsAt h a z) (hY : ∀ h, Hd C m n h → WsAt h b y) (he : Ev C m n e (Is (.ref a))) (h1 : Ev C m n e1 (Is (.ref b))) {pl' : Sem Bool}
    (hs : starEach [e1] C.env = (false, eval e1 C.env) :: starEach [] C.env)
    (hc : eval (.Call (.Attribute e "equal" p1) [e1] [] p2) C.env = (do
      let ov ← eval e C.env
      standAt p1.atName
      let (f, first) ← holding [ov] (getMethod ov "equal" pl')
      callWith p2 f first (backTo p2 (starEach [e1] C.env)) [])) : Ev C m n (.Call (.Attribute e "equal" p1) [e1] [] p2) (IsB (sameW z y)) :=
  B.meth1 pl' he h1 (fun h H => by
    obtain ⟨ox, es, j, nm, tc, vs, t1, t3, t4, I, e1, e2, e3, e4, e5, e6, e7, e8, i1, i2, i3⟩ := (hW h H).ex
    exact ⟨ox, es, j, I, e6⟩) (ws_p6 _) (ws_f6 _) (ws_i6 _) (ws_k6 _) (fun v h tk hv ht H => by
      subst hv
      exact (equal_spec (s := C.st h tk) (B.inner H) R ht (hW h H) (hY h H)).post ht H fun h' r p k => ⟨rfl, p⟩) hs hc
end

theorem rot2 (p q : Addr × Obj) (l r : Led) : (l ++ p :: q :: r).Perm (p :: q :: (l ++ r)) :=
  (List.perm_middle).trans (.cons p List.perm_middle)
theorem swap2 {α : Type} (a b c : α) (r : List α) : (a :: b :: c :: r).Perm (b :: c :: a :: r) := (List.Perm.swap b a (c :: r)).trans (.cons b (.swap c a r))
theorem rot3 (i p q : Addr × Obj) (l r : Led) : (l ++ i :: p :: q :: r).Perm (p :: q :: i :: (l ++ r)) :=
  (List.perm_middle.trans (.cons i (rot2 p q l r))).trans (swap2 i p q (l ++ r))
theorem seen_spec {prog : Program} {w : World} {A : Around} {s : Shared} (Cc : Cx w A s.heap) (R : Rm A 12) (ht : 1 ≤ s.toks) {ln : Addr} {sv : Value} {size : Nat} {lines : List (List Nat)} {vs : List Value} (hsv : IsI (size : Int) sv) (hsz : 0 < size ∧ size ≤ 1000)
    (hl : s.heap.IsList ln vs.toArray) (hv : Strs vs lines) (hlen : lines.length ≤ 100) (hx : ∀ x ∈ lines, x.length ≤ 900) :
    Gives prog w A 236 [.ref ln, sv] s (fun h r => ∃ as, Reads h r (.list ((seenR size lines []).map seenD)) as) := by
  refine enterD (binds := [("lines", .ref ln), ("size", sv)]) Cc ht (by k_is) (by k_is) (by have := R.d; omega) (BindsTo.of_eq rfl) (locs rfl) (by decide) rfl rfl rfl (fun _ _ _ _ _ => rfl) ?_
  rintro C Q rfl rfl rfl hg B ret
  rw [← hg] at hl
  have R' : Rm C.In 11 := R.inner
  refine .assignL (B.loc rfl) (.list (R := fun n v => ∃ D, n = [(D, W.listOf #[] 0)] ∧ v = .ref D) (.nil (R := fun n' vs => n' = [] ∧ vs = []) ⟨rfl, rfl⟩) (fun n' vs D h _ => ⟨D, by rw [h.1, h.2], rfl⟩) (fun n' vs h => by rw [h.2]; decide)) ?_
  rintro n1 v1 ⟨Pi, rfl, rfl⟩
  refine .assignL (B.loc rfl) (.list (R := fun n v => ∃ D, n = [(D, W.listOf #[] 0), (Pi, W.listOf #[] 0)] ∧ v = .ref D) (.nil (R := fun n' vs => n' = [(Pi, W.listOf #[] 0)] ∧ vs = []) ⟨rfl, rfl⟩) (fun n' vs D h _ => ⟨D, by rw [h.1, h.2], rfl⟩) (fun n' vs h => by rw [h.2]; decide)) ?_
  rintro n2 v2 ⟨Sn, rfl, rfl⟩
  refine .perm (List.Perm.swap _ _ _) ?_
  have hlk : C.g.IsList ln vs.toArray := hl
  obtain ⟨ol, hol, _⟩ := id hlk
  refine .have (φ := ln ≠ C.L) (fun h H e => absurd (Nat.lt_of_lt_of_le (Heap.lt_size hol) H.F.above) (e ▸ Nat.lt_irrefl _)) fun hnL => ?_
  refine B.forList (vs := vs) (SnJ C.w ln sv size lines) (SnJ C.w ln sv size lines vs.length) rfl (Ev.name (P := Is (.ref ln)) (B.loc rfl) rfl rfl) (fun h H => isList_keep hl H.F.keep) hnL (.inl ⟨ol, hol⟩) ⟨Pi, Sn, [], [], 0, [], [], 0, [], rfl, .nil, .nil, rfl, rfl, rfl, rfl, rfl, Nat.le_refl _, rfl⟩ ?turn (fun _ _ h => h) ?after
  case after =>
    rintro m₁ n₁ ⟨P', S', rv, rp, np, ws, so, ns, rest, rfl, hP, hS, e1, e2, e3, e4, hso, hrp, hsol⟩
    rw [hv.1, List.drop_length, seenR, List.append_nil] at hso
    subst hso
    refine .ret (.name (P := Is (.ref S')) (B.loc rfl) e4 rfl) fun v h tk p ht H => ret v h _ _ tk H ?_
    subst p
    obtain ⟨as, hr⟩ := hS.reads (h := h) (fun q hq => (H.N q (.tail _ (.tail _ hq))).1)
    exact ⟨_, reads_list_at (H.N _ (.tail _ (.head _))).1 rfl rfl hr⟩
  case turn =>
    rintro i v m₁ n₁ I oI Q' hi ⟨P', S', rv, rp, np, ws, so, ns, rest, rfl, hP, hS, e1, e2, e3, e4, hso, hrp, hsol⟩ T
    obtain ⟨x, hxi, hxv⟩ := hv.2 i v hi
    have hil : i < lines.length := (List.getElem?_eq_some_iff.mp hxi).1
    have hxl : x.length ≤ 900 := hx x (List.mem_of_getElem? hxi)
    obtain ⟨zc, zb, zn⟩ := scan0_le hxl
    rw [pl_line hxi, seenR] at hso
    refine .assignL (B.loc rfl) (ev_ws B rfl (R'.le (by omega)) (.name (B.loc rfl) rfl hxv) (by omega) rfl) ?_
    rintro n3 lv ⟨a, led, rfl, rfl, hWs⟩
    refine .perm (rot3 (I, oI) _ _ led rest) ?_
    have hP : PileIn C.w (led ++ rest) rv rp := hP.mono fun q hq => List.mem_append_right _ hq
    have hS : SeenIn (led ++ rest) ws so := hS.mono fun q hq => List.mem_append_right _ hq
    have hWs : WsIn C.w (led ++ rest) a (scan0 x) := hWs.mono fun q hq => List.mem_append_left _ hq
    obtain ⟨tl, htl⟩ : ∃ tl, tl = (S', W.listOf (List.toArray ws) ns) :: (I, oI) :: (led ++ rest) := ⟨_, rfl⟩
    have hrest : ∀ q ∈ led ++ rest, q ∈ tl := fun q hq => htl ▸ .tail _ (.tail _ hq)
    rw [← htl]
    have hWsA : ∀ {m pre}, ∀ h, Hd C m (pre :: tl) h → WsAt h a (scan0 x) := fun h H => hWs.at fun q hq => (H.N q (.tail _ (hrest q hq))).1
    have hvl := hP.length
    refine .ifC (c := rp = [] ∨ ∃ t r, rp = t :: r ∧ lessW t (scan0 x) = true) (fun m' n' => m' = upd (upd m₁ "line" v) "lead" (.ref a) ∧ ∃ rv' np', n' = (P', W.listOf (List.reverse rv').toArray np') :: tl ∧ PileIn C.w (led ++ rest) rv' (stepR (scan0 x) rp)) ?test ?yes ?no ?tail
    case test =>
      refine .iff (.or2 (.eqI (B.lenL rfl (ns_len _) (.name (P := Is (.ref P')) (B.loc rfl) e3 rfl) (fun h H => ⟨_, News.isList H.N (.head _), rfl⟩) (by rw [List.length_reverse, hvl]; omega)) .int) (cb := ∃ t r, rp = t :: r ∧ lessW t (scan0 x) = true) fun hne => ?_) ?_
      · cases hP with
        | nil => exact absurd rfl hne
        | cons hw hb hr =>
          rename_i t u us zs
          have hwA : ∀ {m pre}, ∀ h, Hd C m (pre :: tl) h → WsAt h t u := fun h H => hw.at fun q hq => (H.N q (.tail _ (hrest q hq))).1
          refine .iff (.bool (ws_less B (R'.le (by omega)) hwA hWsA hb ⟨zc, zb⟩ (.last (.name (P := Is (.ref P')) (B.loc rfl) e3 rfl) (.negI .int) fun h H => ⟨_, by
            have := News.isList H.N (.head _)
            rw [List.reverse_cons] at this
            exact this, rfl⟩) (.name (P := Is (.ref a)) (B.loc rfl) rfl rfl) rfl (by rfl))) ?_
          constructor
          · exact fun h => ⟨u, zs, rfl, h⟩
          · rintro ⟨t', r', e, h⟩; cases e; exact h
      · rw [List.length_reverse, hvl]
        constructor
        · rintro (h | h)
          · exact .inl (List.length_eq_zero_iff.mp (by omega))
          · exact .inr h
        · rintro (h | h)
          · exact .inl (by rw [h]; rfl)
          · exact .inr h
    case yes =>
      intro hc Q2 T2
      refine .append (B.loc rfl) e3 ⟨_, _, .head _⟩ (Ev.name (P := Is (.ref a)) (B.loc rfl) rfl rfl) ?_
      rintro n' v' ⟨rfl, rfl⟩ hd
      refine ⟨[], tl, _, _, rfl, by rw [List.length_reverse, hvl]; omega, T2.run ⟨rfl, .ref a :: rv, np + 1, by rw [List.reverse_cons]; rfl, ?_⟩⟩
      have hst : stepR (scan0 x) rp = scan0 x :: rp := by
        rcases hc with rfl | ⟨t, r, rfl, h⟩
        · rfl
        · rw [stepR, if_pos h]
      rw [hst]
      exact .cons hWs ⟨zc, zb⟩ hP
    case no =>
      intro hc Q2 T2
      have hst : stepR (scan0 x) rp = popR (scan0 x) rp := by
        cases rp with
        | nil => exact absurd (.inl rfl) hc
        | cons t r => rw [stepR, if_neg fun h => hc (.inr ⟨t, r, rfl, h⟩)]
      rw [hst] at T2
      refine B.while (PoJ C.w (led ++ rest) P' tl (upd (upd m₁ "line" v) "lead" (.ref a)) (scan0 x) rp) (PoD C.w (led ++ rest) P' tl (upd (upd m₁ "line" v) "lead" (.ref a)) (scan0 x) rp) (fun k => ∃ t r, rpOf rp k = t :: r ∧ ¬ sameW t (scan0 x) = true) rp.length
        ⟨rfl, Nat.le_refl _, rv, np, rfl, by rw [rpOf, Nat.sub_self]; exact hP, by rw [rpOf, Nat.sub_self]; rfl⟩ ?_ ?_ ?_ ?_
      · rintro k m₂ n₂ ⟨rfl, hk, rv2, np2, rfl, hP2, hpo⟩
        have hl2 := hP2.length
        have hl3 : (rpOf rp k).length = k := by rw [rpOf, List.length_drop]; omega
        refine .iff (.and2 (ca := 0 < k) (.iff (.gtI (B.lenL rfl (ns_len _) (.name (P := Is (.ref P')) (B.loc rfl) e3 rfl) (fun h H => ⟨_, News.isList H.N (.head _), rfl⟩) (by rw [List.length_reverse, hl2, hl3]; omega)) .int) (by rw [List.length_reverse, hl2, hl3]; omega)) (cb := ∃ t r, rpOf rp k = t :: r ∧ ¬ sameW t (scan0 x) = true) fun hpos => ?_) ?_
        · generalize rpOf rp k = rk at *
          cases hP2 with
          | nil => rw [← hl3] at hpos; exact absurd hpos (Nat.lt_irrefl _)
          | cons hw hb hr =>
            rename_i t u us zs
            have hwA : ∀ {m pre}, ∀ h, Hd C m (pre :: tl) h → WsAt h t u := fun h H => hw.at fun q hq => (H.N q (.tail _ (hrest q hq))).1
            refine .iff (.not (.bool (ws_equal B (R'.le (by omega)) hwA hWsA (.last (.name (P := Is (.ref P')) (B.loc rfl) e3 rfl) (.negI .int) fun h H => ⟨_, by
              have := News.isList H.N (.head _)
              rw [List.reverse_cons] at this
              exact this, rfl⟩) (.name (P := Is (.ref a)) (B.loc rfl) rfl rfl) rfl (by rfl)))) ?_
            constructor
            · exact fun h => ⟨u, zs, rfl, h⟩
            · rintro ⟨t', r', e, h⟩; cases e; exact h
        · constructor
          · exact fun h => h.2
          · rintro ⟨t, r, e, h⟩
            refine ⟨?_, t, r, e, h⟩
            rw [e, List.length_cons] at hl3; omega
      · rintro k m₂ n₂ Q3 ⟨rfl, hk, rv2, np2, rfl, hP2, hpo⟩ ⟨t, r, e, hns⟩ T3
        obtain ⟨hpos, hr⟩ := rpOf_cons e hk
        rw [e] at hP2 hpo
        cases hP2 with
        | cons hw hb hr2 =>
          have hl2 := hr2.length
          have hl3 : r.length ≤ 100 := by rw [← hr, rpOf, List.length_drop]; omega
          refine .pop [] tl (B.loc rfl) e3 (by rw [List.reverse_cons]; rfl) (by rw [List.length_reverse, hl2]; omega) (T3.run (k' := k - 1) (by omega) ⟨rfl, by omega, _, _, rfl, hr ▸ hr2, ?_⟩)
          rw [hr, ← hpo, popR, if_neg hns]
      · rintro k m₂ n₂ ⟨rfl, hk, rv2, np2, rfl, hP2, hpo⟩ hnc
        refine ⟨rfl, rv2, np2, rfl, ?_⟩
        rw [← hpo]
        cases hq : rpOf rp k with
        | nil => rw [hq] at hP2; exact hP2
        | cons t r =>
          rw [hq] at hP2
          have : sameW t (scan0 x) = true := by
            cases hs : sameW t (scan0 x) with
            | true => rfl
            | false => exact absurd ⟨t, r, hq, by rw [hs]; decide⟩ hnc
          rw [popR, if_pos this]; exact hP2
      · rintro m₂ n₂ ⟨rfl, rv2, np2, rfl, hP2⟩
        exact T2.run ⟨rfl, rv2, np2, rfl, hP2⟩
    case tail =>
      rintro m' n' ⟨rfl, rv', np', rfl, hP'⟩
      have hst := stepR_le (scan0 x) rp
      have hvl' := hP'.length
      have hWsB : ∀ {m pre}, ∀ h, Hd C m (pre :: tl) h → WsAt h a (scan0 x) := hWsA
      refine .append (D := S') (R := fun n'' v => ∃ D v1 v2 v3, v = .ref D ∧ n'' = (D, { cls := .type "tuple", data := .seq #[v1, v2, v3] }) :: (P', W.listOf (List.reverse rv').toArray np') :: tl ∧ IsI (((stepR (scan0 x) rp).length : Int) - 1) v1 ∧ IsS (x.drop (scan0 x).n) v2 ∧ IsI (levelW (scan0 x) size) v3)
        (B.loc rfl) e4 ⟨ws, ns, by rw [htl]; exact .tail _ (.head _)⟩ (.tuple (RA := fun n'' vs => n'' = (P', W.listOf (List.reverse rv').toArray np') :: tl ∧ ∃ v1 v2 v3, vs = [v1, v2, v3] ∧ IsI (((stepR (scan0 x) rp).length : Int) - 1) v1 ∧ IsS (x.drop (scan0 x).n) v2 ∧ IsI (levelW (scan0 x) size) v3)
          (.consP (.subI (B.lenL (k := (stepR (scan0 x) rp).length) rfl (ns_len _) (.name (P := Is (.ref P')) (B.loc rfl) e3 rfl) (fun h H => ⟨_, News.isList H.N (.head _), by rw [List.length_reverse, hvl']⟩) (by omega)) .int) fun v1 h1 =>
            .consP (.sliceFrom (.name (B.loc rfl) rfl hxv) ((ws_attr B hWsB (.name (B.loc rfl) rfl rfl)).1 (by with_unfolding_all rfl)) (by omega)) fun v2 h2 =>
            .consP (ws_level B (R'.le (by omega)) hWsB zc hsz.1 (by omega) (.name (B.loc rfl) rfl rfl) (.name (B.loc rfl) e2 hsv) rfl (by rfl)) fun v3 h3 => .nil ⟨rfl, v1, v2, v3, rfl, h1, h2, h3⟩)
          (fun n'' vs D ⟨e, v1, v2, v3, e', h1, h2, h3⟩ _ => ⟨D, v1, v2, v3, rfl, by rw [e, e'], h1, h2, h3⟩) (fun n'' vs ⟨e, v1, v2, v3, e', _⟩ => by rw [e', sizeLine_eq]; exact (by decide : 3 ≤ 16777216))) ?_
      rintro n'' v' ⟨D, v1, v2, v3, rfl, rfl, h1, h2, h3⟩ hd
      rw [htl]
      refine ⟨[(D, _), (P', _)], (I, oI) :: (led ++ rest), ws, ns, rfl, by rw [hS.length, hsol]; omega, ?_⟩
      refine .perm (n' := (I, oI) :: (P', W.listOf (List.reverse rv').toArray np') :: (S', W.listOf (ws ++ [Value.ref D]).toArray (ns + 1)) :: (D, { cls := .type "tuple", data := .seq #[v1, v2, v3] }) :: (led ++ rest))
        ((List.perm_middle (l₁ := [_, _, _])).trans (.cons _ (swap2 _ _ _ _))) ?_
      refine T.run ⟨P', S', rv', _, np', _, so ++ [(((stepR (scan0 x) rp).length : Int) - 1, x.drop (scan0 x).n, levelW (scan0 x) size)], _, _, rfl, hP'.mono fun q hq => .tail _ hq, .snoc (hS.mono fun q hq => .tail _ hq) (.head _) h1 h2 h3, e1, e2, e3, e4, by rw [← hso, List.append_assoc]; rfl, by omega, by rw [List.length_append, hsol]; rfl⟩
end Mine
end
-- MCells
section
open PySem PySem.W PyProof.Rows PySem.Calls
set_option maxRecDepth 100000
set_option Elab.async false
set_option linter.unusedVariables false
set_option maxHeartbeats 4000000
namespace Mine
theorem fillCe : PySem.Challenge.rw_wn0108_01 = PySem.Challenge.rw_wn0108_01 ∧ Mine.hd.heap_39 = Mine.hd.heap_39 := by
  k_fill
  exact ⟨rfl, rfl⟩
/-- what a call hands back that it made -/
theorem Gives.postL {C : Fc} {m : Mp} {n : Led} {R : Led → Value → Prop} {f : Addr} {args : List Value} {h : Heap} {tk : Nat} {PH : Heap → Value → Prop} (g : Gives C.prog C.w C.In f args (C.st h tk) PH) (ht : 1 ≤ tk) (H : Hd C m n h)
    (k : ∀ h' r, PH h' r → Keep h h' → ∃ led, (∀ q ∈ led, h'.get? q.1 = some q.2 ∧ h.get? q.1 = none) ∧ Dis led ∧ R (led ++ n) r) : wpAny C.M C.In (PySem.call (.ref f) args) (Post C m R) NoE (C.st h tk) :=
  g.useT ht fun h' tk' r ht' hk hp => by
    obtain ⟨led, hl, hd, hR⟩ := k h' r hp hk
    refine .mkL ht' ⟨H.F.after hk, ?_, ?_⟩ hR
    · intro q hq
      rcases List.mem_append.mp hq with hq | hq
      · obtain ⟨g1, g2⟩ := hl q hq
        refine ⟨g1, fun e => ?_, kts_none H.F.keep g2⟩
        obtain ⟨o, es, ep, ho, _⟩ := H.F.ns
        rw [e, ho] at g2; cases g2
      · exact ⟨hk _ _ (H.N q hq).1, (H.N q hq).2⟩
    · refine .app hd H.D fun p hp q hq e => ?_
      have g2 := (hl p hp).2
      rw [← e, (H.N q hq).1] at g2
      cases g2
noncomputable def cells0 : List Int := [12, 25, 146, 123, 169, 48, 16234]
noncomputable def CeJ (w : World) (sc : Addr) (i : Nat) (m : Mp) (n : Led) : Prop :=
  ∃ D vs j cs, n = [(D, W.listOf (List.toArray vs) j)] ∧ IntsAre vs cs ∧ cs.length = 7 ∧ m "script" = some (.ref sc) ∧ m "cells" = some (.ref D)
noncomputable def ModF (v y : Value) : Prop := ∃ c t t', v = .int c t ∧ y = .int (c.fmod 1000000) t'
theorem ints_mem {vs : List Value} {ns : List Int} (h : IntsAre vs ns) {v : Value} (hv : v ∈ vs) : ∃ c t, v = .int c t ∧ c ∈ ns := by
  induction h with
  | nil => cases hv
  | cons n t _ ih =>
    rcases List.mem_cons.mp hv with rfl | hv
    · exact ⟨n, t, rfl, .head _⟩
    · obtain ⟨c, t, e, hc⟩ := ih hv
      exact ⟨c, t, e, .tail _ hc⟩
theorem mods_of {vs : List Value} {cs : List Int} (h : IntsAre vs cs) : ∀ {ys : List Value}, Paired ModF vs ys → ∃ ms, IntsAre ys ms ∧ ms.length = cs.length ∧ ∀ c ∈ ms, 0 ≤ c ∧ c < 1000000 := by
  induction h with
  | nil => intro ys p; cases p; exact ⟨[], .nil, rfl, fun _ h => nomatch h⟩
  | cons n t _ ih =>
    intro ys p
    cases p with
    | cons f r =>
      obtain ⟨c, t1, t2, e1, rfl⟩ := f
      obtain ⟨ms, h1, h2, h3⟩ := ih r
      refine ⟨_ :: ms, .cons _ _ h1, by rw [List.length_cons, h2]; rfl, fun x hx => ?_⟩
      rcases List.mem_cons.mp hx with rfl | hx
      · exact ⟨Int.fmod_nonneg_of_pos _ (by decide), Int.fmod_lt_of_pos _ (by decide)⟩
      · exact h3 x hx
noncomputable def CellsR (g h : Heap) (r : Value) : Prop := ∃ a o vs cs, r = .ref a ∧ g.get? a = none ∧ h.get? a = some o ∧ o.cls = .type "list" ∧ (∃ k, o.data = .seq (List.toArray vs) k) ∧ IntsAre vs cs ∧ cs.length = 7 ∧ ∀ c ∈ cs, 0 ≤ c ∧ c < 1000000
theorem cells_spec {prog : Program} {w : World} {A : Around} {s : Shared} (Cc : Cx w A s.heap) (R : Rm A 2) (ht : 1 ≤ s.toks) {sc : Addr} {vs : List Value} {ns : List Int} (hl : s.heap.IsList sc vs.toArray) (hi : IntsAre vs ns) (hlen : ns.length < 2 ^ 62) :
    Gives prog w A 166 [.ref sc] s (fun h r => CellsR s.heap h r) := by
  refine enterD (binds := [("script", .ref sc)]) Cc ht (by k_is) (by k_is) (by have := R.d; omega) (BindsTo.of_eq rfl) (locs rfl) (by decide) rfl rfl rfl (fun _ _ _ _ _ => rfl) ?_
  rintro C Q rfl rfl rfl hg B ret
  rw [← hg] at hl ret
  have hil := hi.length
  refine .assignL (B.loc rfl) (.list (R := fun n v => ∃ D vs, n = [(D, W.listOf (List.toArray vs) 0)] ∧ v = .ref D ∧ IntsAre vs cells0) (RA := fun n' vs => n' = [] ∧ IntsAre vs cells0)
    (.consP (P1 := IsI 12) .int fun v1 h1 => .consP (P1 := IsI 25) .int fun v2 h2 => .consP (P1 := IsI 146) .int fun v3 h3 => .consP (P1 := IsI 123) .int fun v4 h4 => .consP (P1 := IsI 169) .int fun v5 h5 => .consP (P1 := IsI 48) .int fun v6 h6 => .consP (P1 := IsI 16234) .int fun v7 h7 => .nil ⟨rfl, ?_⟩)
    (fun n' vs D h _ => ⟨D, vs, by rw [h.1], rfl, h.2⟩) (fun n' vs h => by rw [h.2.length, sizeLine_eq]; decide)) ?_
  · obtain ⟨t1, rfl⟩ := h1; obtain ⟨t2, rfl⟩ := h2; obtain ⟨t3, rfl⟩ := h3; obtain ⟨t4, rfl⟩ := h4; obtain ⟨t5, rfl⟩ := h5; obtain ⟨t6, rfl⟩ := h6; obtain ⟨t7, rfl⟩ := h7
    exact .cons _ _ (.cons _ _ (.cons _ _ (.cons _ _ (.cons _ _ (.cons _ _ (.cons _ _ .nil))))))
  rintro n1 v1 ⟨D, cv, rfl, rfl, hcv⟩
  have hN : min ns.length 63 ≤ 63 := Nat.min_le_right _ _
  refine B.forUp (a := 0) (N := min ns.length 63) (CeJ C.w sc) (CeJ C.w sc (min ns.length 63)) rfl rfl (ns_range _) (.consP (P1 := IsI ((min ns.length 63 : Nat) : Int)) (B.callB rfl (ns_min _) (by boot_fast) (by decide +kernel) (RA := fun n' vs => n' = [(D, W.listOf (List.toArray cv) 0)] ∧ ∃ v1 v2, vs = [v1, v2] ∧ IsI (ns.length : Int) v1 ∧ IsI 63 v2)
    (.consP (B.lenL (k := ns.length) rfl (ns_len _) (.name (P := Is (.ref sc)) (B.loc rfl) rfl rfl) (fun h H => ⟨vs, isList_keep hl H.F.keep, hil⟩) hlen) fun v1 h1 => .consP .int fun v2 h2 => .nil ⟨rfl, v1, v2, rfl, h1, h2⟩) ?_) fun v h => .nil ⟨rfl, .inl ⟨v, rfl, rfl, h⟩⟩) (by decide) (by omega) ⟨D, cv, 0, cells0, rfl, hcv, rfl, rfl, rfl⟩ ?_ (fun _ _ h => h) ?_
  · rintro n' vs' h tk ⟨rfl, v1, v2, rfl, ⟨u1, rfl⟩, u2, rfl⟩ ht H
    refine wpAny_with_toks (n := 1) ht (min_two_N (s := C.st h tk) B.cx.hh H.F H.N fun h' tk' F' N' ht' => .mk ht' ⟨F', N', H.D⟩ ⟨_, congrArg (fun x => Value.int x _) ?_⟩)
    split <;> omega
  · rintro i v m₁ n₁ I oI Q' hi' hv ⟨D, cv, j, cs, rfl, hcs, hc7, e1, e2⟩ T
    rw [Nat.zero_add] at hv
    obtain ⟨sv, hs, hsv⟩ := ilW_item hi (i := i) (by omega)
    obtain ⟨cv', hc, hcv'⟩ := ilW_item hcs (i := i % 7) (by omega)
    refine .perm (List.Perm.swap _ _ _) ?_
    refine .setItem [] [(I, oI)] (k := i % 7) (B.loc rfl) e2 rfl hcs (by omega) (by omega)
      (.addI (.item (.name (P := Is (.ref D)) (B.loc rfl) e2 rfl) (.modN (b := 7) (.name (B.loc rfl) rfl hv) .int (by decide)) fun h H => ⟨_, News.isList H.N (.head _), by rw [hcs.length]; omega, hc, hcv'⟩) (.item (.name (P := Is (.ref sc)) (B.loc rfl) e1 rfl) (.name (B.loc rfl) rfl hv) fun h H => ⟨_, isList_keep hl H.F.keep, by rw [hil]; exact hlen, hs, hsv⟩))
      (.modN (b := 7) (.name (B.loc rfl) rfl hv) .int (by decide)) fun vs' hvs' => ?_
    refine .perm (List.Perm.swap _ _ _) (T.run ⟨D, vs', j, _, rfl, hvs', by rw [List.length_set]; exact hc7, e1, e2⟩)
  · rintro m₁ n₁ ⟨D, cv, j, cs, rfl, hcs, hc7, e1, e2⟩
    refine .retL (R := fun n' v => ∃ a o ys ms, v = .ref a ∧ n' = (a, o) :: [(D, W.listOf (List.toArray cv) j)] ∧ o.cls = .type "list" ∧ (∃ k, o.data = .seq (List.toArray ys) k) ∧ IntsAre ys ms ∧ ms.length = 7 ∧ ∀ c ∈ ms, 0 ≤ c ∧ c < 1000000) (fun h tk ht H => ?_) ?_
    · refine wpAny_with_toks (n := 1) ht (wpAny_ListComp_map (fun _ => true) ModF B.cx.hh (by decide) (by decide) rfl (by decide) rfl ?_)
      refine pb (Ev.name (P := Is (.ref D)) (B.loc rfl) e2 rfl h tk ht H) fun v h tk ht H e => ?_
      subst e
      have hL := News.isList H.N (.head _)
      refine ⟨D, _, rfl, hL, by rw [List.size_toArray, hcs.length, sizeLine_eq]; omega, ?_, ?_, ?_⟩
      · intro C' v s₂ m₂ E' hv hn hm hk
        exact wpAny_pure ⟨rfl, s₂.heap, s₂.toks, rfl, fun _ _ e => e⟩
      · intro C' v s₂ m₂ E' hv hp hn hm hk
        obtain ⟨c, t, rfl, hc⟩ := ints_mem hcs (by simpa using hv)
        refine wpAny_BinOp (wpAny_Name (wpAny_loadName_local rfl rfl hn hm ?_))
        refine wpAny_Constant_int ?_
        exact mod_int' (by decide) ⟨⟨c, t, _, rfl, rfl⟩, s₂.heap, _, rfl, fun _ _ e => e⟩
      · intro D' h' tk' ys hD' hl' hF hk ht'
        obtain ⟨o, ho, ho1, k, ho3⟩ := id hl'
        obtain ⟨ms, hm1, hm2, hm3⟩ := mods_of hcs (ys := ys.toList) (by rw [List.filter_eq_self.mpr (fun _ _ => rfl)] at hF; exact hF)
        refine .mkL ht' (n' := (D', o) :: [(D, W.listOf (List.toArray cv) j)]) ⟨H.F.after hk, ?_, ?_⟩ ⟨D', o, ys.toList, ms, rfl, rfl, ho1, ⟨k, by simpa using ho3⟩, hm1, by rw [hm2]; exact hc7, hm3⟩
        · intro q hq
          rcases List.mem_cons.mp hq with rfl | hq
          · refine ⟨ho, fun e => ?_, kts_none H.F.keep hD'⟩
            obtain ⟨oL, es, ep, hoL, _⟩ := H.F.ns
            rw [show D' = C.L from e, hoL] at hD'; cases hD'
          · exact ⟨hk _ _ (H.N q hq).1, (H.N q hq).2⟩
        · refine .cons (fun q hq e => ?_) H.D
          have := (H.N q hq).1
          rw [show q.1 = D' from e, hD'] at this; cases this
    · rintro v h tk n' ⟨a, o, ys, ms, rfl, rfl, ho1, ho2, hm1, hm2, hm3⟩ ht H
      exact ret _ h _ _ tk H ⟨a, o, ys, ms, rfl, (H.N _ (.head _)).2.2, (H.N _ (.head _)).1, ho1, ho2, hm1, hm2, hm3⟩
end Mine
end
-- MLaw
section
open PySem PySem.W PyProof.Rows PySem.Calls
set_option maxRecDepth 100000
set_option Elab.async false
set_option linter.unusedVariables false
set_option maxHeartbeats 4000000
namespace Mine
theorem fillLw : PySem.Challenge.rw_wn0108_01 = PySem.Challenge.rw_wn0108_01 ∧ Mine.hd.heap_39 = Mine.hd.heap_39 := by
  k_fill
  exact ⟨rfl, rfl⟩
section
variable {prog : Program} {w : World} {A : Around} {s : Shared} {env : Env} {h₀ : Heap} {body : List Stmt} {Q : Flow → Shared → Prop}
/-- over a tuple -/
theorem iterTup {E : Value → Shared → Prop} {x : Str} {px : Pos} {l : Addr} {vs : List Value} {m : Str → Option Value} {news : List (Addr × Obj)}
    (J : Nat → (Str → Option Value) → List (Addr × Obj) → Prop)
    (hh : A.handled = none) (hx : env.kindOf x = some .local) (hk : env.scope.kind = .function)
    (hl : IsTup s.heap l vs.toArray) (hlL : l ≠ env.locals) (hax : (∃ o, h₀.get? l = some o) ∨ ∃ o, ∀ i m news, J i m news → (l, o) ∈ news)
    (F : Fr h₀ env.locals s.heap m) (N : News h₀ env.locals s.heap news) (ht : 1 ≤ s.toks) (h0 : J 0 m news)
    (turn : ∀ i v m₁ news₁ I oI h tk, vs[i]? = some v → J i m₁ news₁ → (∀ p ∈ news₁, p.1 ≠ I) → 1 ≤ tk → Fr h₀ env.locals h (fun y => if y = x then some v else m₁ y) → News h₀ env.locals h ((I, oI) :: news₁) →
      wpAny (model prog w) A (execs body env) (TurnE h₀ env.locals I oI (J (i + 1)) { s with heap := h, toks := tk } Q) (fun _ _ => False) { s with heap := h, toks := tk })
    (done : ∀ h tk m₁ news₁, 1 ≤ tk → Fr h₀ env.locals h m₁ → News h₀ env.locals h news₁ → J vs.length m₁ news₁ → Q .next { s with heap := h, toks := tk }) :
    wpAny (model prog w) A (pyIter (.ref l)) (fun it s₂ => codeAny (model prog w) A (.forLoop (.Name x px) it body [] env) (fun r s' => match r with | .ok f => Q f s' | .error e => False) s₂) E s := by
  obtain ⟨ol, hol, hol2⟩ := id hl
  have hlt : l < s.heap.objs.size := Heap.lt_size hol
  have hne : l ≠ s.heap.objs.size := Nat.ne_of_lt hlt
  refine wpAny_pyIter_tuple hl ?_
  have hI0 : h₀.get? s.heap.objs.size = none := next_is_new F
  have W := Walks.tuple (prog := prog) (w := w) hh s.heap.objs.size l hne vs.toArray
  rw [List.size_toArray] at W
  refine loopW J W (fun i h st => let ⟨o, ho, _⟩ := st.1; ⟨o, ho⟩) hx hk hI0 ?_ ?_ ⟨⟨_, Heap.get?_push_size _ rfl, rfl, rfl⟩, ⟨ol, Heap.get?_push_of_some _ hol, hol2⟩⟩ (F.push _) (fun p hp => ⟨Heap.get?_push_of_some _ (N p hp).1, (N p hp).2⟩) ?_ ht h0 ?_ done
  · intro hm
    rcases List.mem_cons.mp hm with e | hm
    · exact absurd F.ns.lt (e ▸ Nat.lt_irrefl _)
    · exact hlL (List.mem_singleton.mp hm).symm
  · intro b hb hn
    rcases List.mem_cons.mp hb with e | hm
    · exact absurd e hn
    · rw [List.mem_singleton.mp hm]; exact hax
  · intro p hp e; exact absurd (Heap.lt_size (N p hp).1) (e ▸ Nat.lt_irrefl _)
  · rintro i v m₁ news₁ oI h tk hi hP hJ hn ht F N
    exact turn i v m₁ news₁ _ oI h tk (by simpa using hP) hJ hn ht F N
end
section
variable {C : Fc} {m : Mp} {n : Led} {P P1 P2 P3 : Value → Prop} {R R1 R2 : Led → Value → Prop} {Q : Flow → Shared → Prop}
/-- over a tuple, a list that was just made -/
theorem Bod.forTup {l : List (Str × NameKind)} (B : Bod C l) {x : Str} {px pos : Pos} {e1 : Expr} {body rest : List Stmt} (D : Mp → Led → Prop) (hx : locIn l x = true) (h1 : EvL C m n e1 R1)
    (go : ∀ n0 v, R1 n0 v → ∃ a vs k, ∃ J : Nat → Mp → Led → Prop, v = .ref a ∧ (a, ({ cls := .type "tuple", data := .seq (List.toArray vs) k } : Obj)) ∈ n0 ∧ (∀ i m n, J i m n → (a, ({ cls := .type "tuple", data := .seq (List.toArray vs) k } : Obj)) ∈ n) ∧ J 0 m n0 ∧
      (∀ i v m₁ n₁ I oI Q', vs[i]? = some v → J i m₁ n₁ → TurnD C I oI (J (i + 1)) D Q Q' → Run C (upd m₁ x v) ((I, oI) :: n₁) body Q') ∧ (∀ m₁ n₁, J vs.length m₁ n₁ → D m₁ n₁))
    (k : ∀ m₁ n₁, D m₁ n₁ → Run C m₁ n₁ rest Q)
    (hsf : ∀ v, foldedSetIterable e1 C.env v = pure v := by intro _; rfl) : Run C m n (.For (.Name x px) e1 body [] pos :: rest) Q :=
  .cut D (fun Q' hn hr hb h tk ht H => forT ht (pl (h1 h tk ht H) fun v h tk n' ht H r => by
    obtain ⟨a, vs, kk, J, rfl, hm, hax, h0, turn, done⟩ := go n' v r
    intro ht
    exact iterTup (s := C.st h tk) (fun i m n => J i m n ∧ Dis n) B.cx.hh (B.loc hx).2.1 B.kind ⟨_, (H.N _ hm).1, rfl, _, rfl⟩ (H.N _ hm).2.1 (.inr ⟨_, fun i m n hJ => hax i m n hJ.1⟩) H.F H.N ht ⟨h0, H.D⟩
      (fun i v m₁ n₁ I oI h tk hi hJ hI htk F N => turn i _ m₁ n₁ I oI (TurnE C.g C.env.locals I oI (fun m n => J (i + 1) m n ∧ Dis n) (C.st h tk) Q') hi hJ.1 ⟨fun h tk m' n' H hJ => TurnE.next H.F H.N H.D.head ⟨hJ, H.D.tail⟩, fun h tk m' n' ht H d => hn m' n' h tk d ht H, fun v s q => hr v s q⟩ h tk htk ⟨F, N, .cons hI hJ.2⟩)
      (fun h tk m₁ n₁ ht F N hJ => hn m₁ n₁ h tk (done m₁ n₁ hJ.1) ht ⟨F, N, hJ.2⟩)) hsf) k
theorem Bod.forNew {l : List (Str × NameKind)} (B : Bod C l) {x : Str} {px pos : Pos} {e1 : Expr} {body rest : List Stmt} (D : Mp → Led → Prop) (hx : locIn l x = true) (h1 : EvL C m n e1 R1)
    (go : ∀ n0 v, R1 n0 v → ∃ a vs k, ∃ J : Nat → Mp → Led → Prop, v = .ref a ∧ (a, W.listOf (List.toArray vs) k) ∈ n0 ∧ (∀ i m n, J i m n → (a, W.listOf (List.toArray vs) k) ∈ n) ∧ J 0 m n0 ∧
      (∀ i v m₁ n₁ I oI Q', vs[i]? = some v → J i m₁ n₁ → TurnD C I oI (J (i + 1)) D Q Q' → Run C (upd m₁ x v) ((I, oI) :: n₁) body Q') ∧ (∀ m₁ n₁, J vs.length m₁ n₁ → D m₁ n₁))
    (k : ∀ m₁ n₁, D m₁ n₁ → Run C m₁ n₁ rest Q)
    (hsf : ∀ v, foldedSetIterable e1 C.env v = pure v := by intro _; rfl) : Run C m n (.For (.Name x px) e1 body [] pos :: rest) Q :=
  .cut D (fun Q' hn hr hb h tk ht H => forT ht (pl (h1 h tk ht H) fun v h tk n' ht H r => by
    obtain ⟨a, vs, kk, J, rfl, hm, hax, h0, turn, done⟩ := go n' v r
    intro ht
    exact iterList (s := C.st h tk) (fun i m n => J i m n ∧ Dis n) B.cx.hh (B.loc hx).2.1 B.kind (News.isList H.N hm) (H.N _ hm).2.1 (.inr ⟨_, fun i m n hJ => hax i m n hJ.1⟩) H.F H.N ht ⟨h0, H.D⟩
      (fun i v m₁ n₁ I oI h tk hi hJ hI htk F N => turn i _ m₁ n₁ I oI (TurnE C.g C.env.locals I oI (fun m n => J (i + 1) m n ∧ Dis n) (C.st h tk) Q') hi hJ.1 ⟨fun h tk m' n' H hJ => TurnE.next H.F H.N H.D.head ⟨hJ, H.D.tail⟩, fun h tk m' n' ht H d => hn m' n' h tk d ht H, fun v s q => hr v s q⟩ h tk htk ⟨F, N, .cons hI hJ.2⟩)
      (fun h tk m₁ n₁ ht F N hJ => hn m₁ n₁ h tk (done m₁ n₁ hJ.1) ht ⟨F, N, hJ.2⟩)) hsf) k
end
section
variable (w : World)
theorem ns_cells : nsIn (hd.heap_39 w.params) mainGlobals "_law_cells" = some (some (.ref 166)) := by k_is
theorem ns_ends : nsIn (hd.heap_39 w.params) mainGlobals "_law_ends" = some (some (.ref 173)) := by k_is
theorem ns_within : nsIn (hd.heap_39 w.params) mainGlobals "_law_within" = some (some (.ref 187)) := by k_is
theorem ns_spelled : nsIn (hd.heap_39 w.params) mainGlobals "_law_spelled" = some (some (.ref 194)) := by k_is
theorem ns_plain : nsIn (hd.heap_39 w.params) mainGlobals "_law_plain" = some (some (.ref 201)) := by k_is
theorem ns_replies : nsIn (hd.heap_39 w.params) mainGlobals "_law_replies" = some (some (.ref 208)) := by k_is
theorem ns_heard : nsIn (hd.heap_39 w.params) mainGlobals "_law_heard" = some (some (.ref 215)) := by k_is
theorem ns_turned : nsIn (hd.heap_39 w.params) mainGlobals "_law_turned" = some (some (.ref 222)) := by k_is
theorem ns_column : nsIn (hd.heap_39 w.params) mainGlobals "_law_column" = some (some (.ref 229)) := by k_is
theorem ns_seen : nsIn (hd.heap_39 w.params) mainGlobals "_law_seen" = some (some (.ref 236)) := by k_is
theorem ns_attrib : nsIn (hd.heap_39 w.params) mainGlobals "_escape_attrib" = some (some (.ref 140)) := by k_is
theorem kp_cells : keepIn (hd.heap_39 w.params) (.ref 166) = true := by k_is
theorem kp_ends : keepIn (hd.heap_39 w.params) (.ref 173) = true := by k_is
theorem kp_within : keepIn (hd.heap_39 w.params) (.ref 187) = true := by k_is
theorem kp_spelled : keepIn (hd.heap_39 w.params) (.ref 194) = true := by k_is
theorem kp_plain : keepIn (hd.heap_39 w.params) (.ref 201) = true := by k_is
theorem kp_replies : keepIn (hd.heap_39 w.params) (.ref 208) = true := by k_is
theorem kp_heard : keepIn (hd.heap_39 w.params) (.ref 215) = true := by k_is
theorem kp_turned : keepIn (hd.heap_39 w.params) (.ref 222) = true := by k_is
theorem kp_column : keepIn (hd.heap_39 w.params) (.ref 229) = true := by k_is
theorem kp_seen : keepIn (hd.heap_39 w.params) (.ref 236) = true := by k_is
theorem kp_attrib : keepIn (hd.heap_39 w.params) (.ref 140) = true := by k_is
end
/-! what the law builds -/
noncomputable def units6 : List (List Nat) := [[32], [9], [32, 32], [32, 9], [9, 32], [32, 32, 9, 32, 9]]
noncomputable def unit (k : Nat) : List Nat := units6.getD (k % 6) []
noncomputable def lead (r : Nat) : Nat → List Nat
  | 0 => (unit r).drop 1
  | i + 1 => lead r i ++ unit (r / 6 ^ (i + 1))
noncomputable def signs : List Nat := [97, 34, 38, 60, 62, 9, 10, 13, 59]
noncomputable def sign (c : Nat) : Nat := signs.getD (c / 12 % 9) 0
noncomputable def treeL : List Nat → Nat → List (Nat × Nat)
  | [], _ => []
  | c :: r, p => (c % min (p + 1) 4, sign c) :: treeL r (c % min (p + 1) 4 + 1)
noncomputable def LineOf (r : Nat) (nd : Nat × Nat) (x : List Nat) : Prop := ∃ closed closed' last, x = J closed' last ++ esc 2 [nd.2] ∧ lead r nd.1 = J closed last ∧ closed'.Perm closed ∧ (∀ q ∈ closed, 9 ∉ q) ∧ 9 ∉ last
inductive LinesOf (r : Nat) : List (Nat × Nat) → List (List Nat) → Prop
  | nil : LinesOf r [] []
  | snoc {t : List (Nat × Nat)} {xs : List (List Nat)} {nd : Nat × Nat} {x : List Nat} : LinesOf r t xs → LineOf r nd x → LinesOf r (t ++ [nd]) (xs ++ [x])
noncomputable def dueOf (r size : Nat) (nd : Nat × Nat) : Int × List Nat × Int := ((nd.1 : Int), spelledL 2 nd.2 1, (columnL size (lead r nd.1) : Int))
end Mine
end
-- MLaw2
section
open PySem PySem.W PyProof.Rows PySem.Calls
set_option maxRecDepth 100000
set_option Elab.async false
set_option linter.unusedVariables false
set_option maxHeartbeats 4000000
namespace Mine
section
variable {C : Fc} {m : Mp} {n : Led} {l : List (Str × NameKind)} (B : Bod C l) {e1 e2 e3 : Expr} {p q : Pos} {P1 P2 P3 P : Value → Prop}
include B
/-- a def that makes nothing that is kept, of one, two, three arguments -/
theorem Bod.pure1 {x : Str} {f : Addr} (hG : glbIn l x = true) (e : nsIn (hd.heap_39 C.w.params) mainGlobals x = some (some (.ref f))) (hkeep : keepIn (hd.heap_39 C.w.params) (.ref f) = true) (h1 : Ev C m n e1 P1)
    (k : ∀ v h tk, P1 v → 1 ≤ tk → Hd C m n h → Gives C.prog C.w C.In f [v] (C.st h tk) fun _ r => P r)
    (hs : starEach [e1] C.env = (false, eval e1 C.env) :: starEach [] C.env := by rfl) : Ev C m n (.Call (.Name x p) [e1] [] q) P :=
  B.call hG e hkeep (RA := fun n' vs => n' = n ∧ ∃ v, vs = [v] ∧ P1 v) (.consP h1 (fun v hv => .nil ⟨rfl, v, rfl, hv⟩) hs)
    (fun n' vs h tk ⟨en, v, ev, hv⟩ ht H => by subst en ev; exact (k v h tk hv ht H).post ht H fun h' r p _ => ⟨rfl, p⟩) hs
theorem Bod.pure2 {x : Str} {f : Addr} (hG : glbIn l x = true) (e : nsIn (hd.heap_39 C.w.params) mainGlobals x = some (some (.ref f))) (hkeep : keepIn (hd.heap_39 C.w.params) (.ref f) = true) (h1 : Ev C m n e1 P1) (h2 : Ev C m n e2 P2)
    (k : ∀ v1 v2 h tk, P1 v1 → P2 v2 → 1 ≤ tk → Hd C m n h → Gives C.prog C.w C.In f [v1, v2] (C.st h tk) fun _ r => P r)
    (hs : starEach [e1, e2] C.env = (false, eval e1 C.env) :: starEach [e2] C.env := by rfl) (hs2 : starEach [e2] C.env = (false, eval e2 C.env) :: starEach [] C.env := by rfl) (hs3 : (List.any (backTo q (starEach [e2] C.env)) fun x => Prod.fst x) = false := by rfl) : Ev C m n (.Call (.Name x p) [e1, e2] [] q) P :=
  B.call hG e hkeep (RA := fun n' vs => n' = n ∧ ∃ v1 v2, vs = [v1, v2] ∧ P1 v1 ∧ P2 v2) (.consP h1 (fun v1 hv1 => .consP h2 (fun v2 hv2 => .nil ⟨rfl, v1, v2, rfl, hv1, hv2⟩) hs2) hs)
    (fun n' vs h tk ⟨en, v1, v2, ev, hv1, hv2⟩ ht H => by subst en ev; exact (k v1 v2 h tk hv1 hv2 ht H).post ht H fun h' r p _ => ⟨rfl, p⟩) hs hs3
theorem Bod.pure3 {x : Str} {f : Addr} (hG : glbIn l x = true) (e : nsIn (hd.heap_39 C.w.params) mainGlobals x = some (some (.ref f))) (hkeep : keepIn (hd.heap_39 C.w.params) (.ref f) = true) (h1 : Ev C m n e1 P1) (h2 : Ev C m n e2 P2) (h3 : Ev C m n e3 P3)
    (k : ∀ v1 v2 v3 h tk, P1 v1 → P2 v2 → P3 v3 → 1 ≤ tk → Hd C m n h → Gives C.prog C.w C.In f [v1, v2, v3] (C.st h tk) fun _ r => P r)
    (hs : starEach [e1, e2, e3] C.env = (false, eval e1 C.env) :: starEach [e2, e3] C.env := by rfl) (hs2 : starEach [e2, e3] C.env = (false, eval e2 C.env) :: starEach [e3] C.env := by rfl) (hs3 : starEach [e3] C.env = (false, eval e3 C.env) :: starEach [] C.env := by rfl)
    (hs4 : (List.any (backTo q (starEach [e2, e3] C.env)) fun x => Prod.fst x) = false := by rfl) : Ev C m n (.Call (.Name x p) [e1, e2, e3] [] q) P :=
  B.call hG e hkeep (RA := fun n' vs => n' = n ∧ ∃ v1 v2 v3, vs = [v1, v2, v3] ∧ P1 v1 ∧ P2 v2 ∧ P3 v3) (.consP h1 (fun v1 hv1 => .consP h2 (fun v2 hv2 => .consP h3 (fun v3 hv3 => .nil ⟨rfl, v1, v2, v3, rfl, hv1, hv2, hv3⟩) hs3) hs2) hs)
    (fun n' vs h tk ⟨en, v1, v2, v3, ev, hv1, hv2, hv3⟩ ht H => by subst en ev; exact (k v1 v2 v3 h tk hv1 hv2 hv3 ht H).post ht H fun h' r p _ => ⟨rfl, p⟩) hs hs4

theorem ev_ends (hG : glbIn l "_law_ends" = true) (R : Rm C.In 1) {hand : Nat} (hh : hand < 5) (h1 : Ev C m n e1 (IsI (hand : Int))) (hs : starEach [e1] C.env = (false, eval e1 C.env) :: starEach [] C.env) :
    EvL C m n (.Call (.Name "_law_ends" p) [e1] [] q) fun n' v => ∃ a o, v = .ref a ∧ n' = (a, o) :: n ∧ (a == sysModules) = false ∧ EndsObj C.prog C.w o hand :=
  B.call hG (ns_ends _) (kp_ends _) (RA := fun n' vs => n' = n ∧ ∃ v, vs = [v] ∧ IsI (hand : Int) v) (.consP h1 (fun v hv => .nil ⟨rfl, v, rfl, hv⟩) hs)
    (by
      rintro n' vs h tk ⟨en, v, rfl, t, rfl⟩ ht H
      rw [en] at H
      refine (ends_spec (s := C.st h tk) (B.inner H) R ht hh).postL ht H fun h' r hp hk => ?_
      obtain ⟨a, o, rfl, g1, g2, lo, hE⟩ := hp
      exact ⟨[(a, o)], fun q hq => by rw [List.mem_singleton.mp hq]; exact ⟨g2, g1⟩, .cons (fun _ h => nomatch h) .nil, a, o, rfl, rfl, lo, hE⟩) hs
theorem ev_cells (hG : glbIn l "_law_cells" = true) (R : Rm C.In 2) {sc : Addr} {vs : List Value} {ns : List Int} (hl : C.g.IsList sc vs.toArray) (hi : IntsAre vs ns) (hlen : ns.length < 2 ^ 62) (h1 : Ev C m n e1 (Is (.ref sc))) (hs : starEach [e1] C.env = (false, eval e1 C.env) :: starEach [] C.env) :
    EvL C m n (.Call (.Name "_law_cells" p) [e1] [] q) fun n' v => ∃ a o vs cs, v = .ref a ∧ n' = (a, o) :: n ∧ o.cls = .type "list" ∧ (∃ k, o.data = .seq (List.toArray vs) k) ∧ IntsAre vs cs ∧ cs.length = 7 ∧ ∀ c ∈ cs, 0 ≤ c ∧ c < 1000000 :=
  B.call hG (ns_cells _) (kp_cells _) (RA := fun n' vs => n' = n ∧ ∃ v, vs = [v] ∧ Is (.ref sc) v) (.consP h1 (fun v hv => .nil ⟨rfl, v, rfl, hv⟩) hs)
    (by
      rintro n' vs' h tk ⟨en, v, rfl, rfl⟩ ht H
      rw [en] at H
      refine (cells_spec (s := C.st h tk) (B.inner H) R ht (isList_keep hl H.F.keep) hi hlen).postL ht H fun h' r hp hk => ?_
      obtain ⟨a, o, vs, cs, rfl, g1, g2, c1, c2, c3, c4, c5⟩ := hp
      exact ⟨[(a, o)], fun q hq => by rw [List.mem_singleton.mp hq]; exact ⟨g2, g1⟩, .cons (fun _ h => nomatch h) .nil, a, o, vs, cs, rfl, rfl, c1, c2, c3, c4, c5⟩) hs
end
theorem sign_lt (c : Nat) : sign c < 200 := by
  unfold sign
  have h : ∀ k, k < 9 → signs.getD k 0 < 200 := by decide
  exact h _ (Nat.mod_lt _ (by decide))
theorem units6_len (k : Nat) : (unit k).length ≤ 5 := by
  unfold unit
  have h : ∀ k, k < 6 → (units6.getD k []).length ≤ 5 := by decide
  exact h _ (Nat.mod_lt _ (by decide))
theorem lead_len (r : Nat) : ∀ i, (lead r i).length ≤ 5 * (i + 1)
  | 0 => by rw [lead, List.length_drop]; have := units6_len r; omega
  | i + 1 => by
    rw [lead, List.length_append]
    have := lead_len r i
    have := units6_len (r / 6 ^ (i + 1))
    omega
/-- texts of a list, by place -/
theorem Strs.nil : Strs [] [] := ⟨rfl, fun i v h => by simp at h⟩
theorem Strs.snoc {vs : List Value} {xs : List (List Nat)} {v : Value} {x : List Nat} (h : Strs vs xs) (hv : IsS x v) : Strs (vs ++ [v]) (xs ++ [x]) := by
  refine ⟨by rw [List.length_append, List.length_append, h.1]; rfl, fun i w hw => ?_⟩
  by_cases hi : i < vs.length
  · rw [List.getElem?_append_left hi] at hw
    rw [List.getElem?_append_left (by rw [← h.1]; exact hi)]
    exact h.2 i w hw
  · have hlt := (List.getElem?_eq_some_iff.mp hw).1
    rw [List.length_append] at hlt
    have hlt' : i < vs.length + 1 := hlt
    have : i = vs.length := by omega
    subst this
    rw [List.getElem?_append_right (Nat.le_refl _), Nat.sub_self] at hw
    have hw' : v = w := by simpa using hw
    subst hw'
    refine ⟨x, ?_, hv⟩
    rw [h.1, List.getElem?_append_right (Nat.le_refl _), Nat.sub_self]; rfl
theorem Strs.get {vs : List Value} {xs : List (List Nat)} (h : Strs vs xs) {i : Nat} {x : List Nat} (hx : xs[i]? = some x) : ∃ v, vs[i]? = some v ∧ IsS x v := by
  have hi : i < vs.length := by rw [h.1]; exact (List.getElem?_eq_some_iff.mp hx).1
  obtain ⟨y, hy, hv⟩ := h.2 i vs[i] (List.getElem?_eq_getElem hi)
  rw [hx] at hy
  cases hy
  exact ⟨_, List.getElem?_eq_getElem hi, hv⟩
/-- the dues -/
theorem six (i : Nat) : 6 ^ (i + 1) ≠ 0 := Nat.pos_iff_ne_zero.mp (Nat.pow_pos (by decide))
noncomputable def leadsTo (r : Nat) : Nat → List (List Nat)
  | 0 => [lead r 0]
  | i + 1 => leadsTo r i ++ [lead r (i + 1)]
theorem leadsTo_len (r : Nat) : ∀ i, (leadsTo r i).length = i + 1
  | 0 => rfl
  | i + 1 => by rw [leadsTo, List.length_append, leadsTo_len r i]; rfl
theorem leadsTo_last (r : Nat) (i : Nat) : ∃ xs, leadsTo r i = xs ++ [lead r i] := by
  cases i with
  | zero => exact ⟨[], rfl⟩
  | succ i => exact ⟨_, rfl⟩
theorem leadsTo_get (r : Nat) : ∀ i j, j ≤ i → (leadsTo r i)[j]? = some (lead r j)
  | 0, j, h => by
    have : j = 0 := by omega
    subst this; rfl
  | i + 1, j, h => by
    rw [leadsTo]
    by_cases hj : j ≤ i
    · rw [List.getElem?_append_left (by rw [leadsTo_len]; omega)]
      exact leadsTo_get r i j hj
    · have : j = i + 1 := by omega
      subst this
      rw [List.getElem?_append_right (by rw [leadsTo_len]; exact Nat.le_refl _), leadsTo_len, Nat.sub_self]; rfl
end Mine
end
-- MLaw4
section
open PySem PySem.W PyProof.Rows PySem.Calls
set_option maxRecDepth 100000
set_option Elab.async false
set_option linter.unusedVariables false
set_option maxHeartbeats 8000000
namespace Mine
theorem fillLw4 : PySem.Challenge.rw_wn0108_01 = PySem.Challenge.rw_wn0108_01 ∧ Mine.hd.heap_39 = Mine.hd.heap_39 := by
  k_fill
  exact ⟨rfl, rfl⟩
theorem J_perm_len {closed closed' : List (List Nat)} {last : List Nat} (h : closed'.Perm closed) : (J closed' last).length = (J closed last).length := by
  rw [J_len, J_len, h.length_eq, (h.map List.length).sum_nat]
theorem sign_get (c : Nat) : signs[c / 12 % 9]? = some (sign c) := by
  have h : ∀ k, k < 9 → signs[k]? = some (signs.getD k 0) := by decide
  exact h _ (Nat.mod_lt _ (by decide))
theorem esc_one (hand c : Nat) : (esc hand [c]).length ≤ 6 := by
  have := esc_len hand [c]
  simpa using this
/-- the names that the loop reads -/
structure LwM (T Ln Du Le ta : Addr) (sv hv : Value) (m : Mp) : Prop where
  tree : m "tree" = some (.ref T)
  lines : m "lines" = some (.ref Ln)
  due : m "due" = some (.ref Du)
  leads : m "leads" = some (.ref Le)
  table : m "table" = some (.ref ta)
  size : m "size" = some sv
  hand : m "hand" = some hv
structure LwN (w : World) (keep : Led) (T Ln Du : Addr) (r size : Nat) (n : Led) (so : List (Nat × Nat)) : Prop where
  ex : ∃ n' tv lv dv j1 j2 j3 rest xs, n.Perm n' ∧ n' = (T, W.listOf (List.toArray tv) j1) :: (Ln, W.listOf (List.toArray lv) j2) :: (Du, W.listOf (List.toArray dv) j3) :: rest ∧ (∀ q ∈ keep, q ∈ rest) ∧ NodesIn rest tv so ∧ Strs lv xs ∧ LinesOf r so xs ∧ SeenIn rest dv (so.map (dueOf r size))
noncomputable def LwJ (w : World) (keep : Led) (T Ln Du Le ta : Addr) (sv hv : Value) (r size : Nat) (cells : List Nat) (i : Nat) (m : Mp) (n : Led) : Prop :=
  LwM T Ln Du Le ta sv hv m ∧ ∃ so, ∃ p : Nat, ∃ dv, LwN w keep T Ln Du r size n so ∧ m "depth" = some dv ∧ IsI ((p : Int) - 1) dv ∧ so ++ treeL (cells.drop i) p = treeL cells 0 ∧ p ≤ 4 ∧ so.length = i


noncomputable abbrev Fc.on (C : Fc) (g : Heap) : Fc := { C with g := g }
section
variable {C : Fc} {m : Mp} {n : Led} {Q : Flow → Shared → Prop}
/-- if l != r: a, two texts, the right one's ledger grown -/
theorem Run.ifNeS {l r : Expr} {p p2 : Pos} {a rest : List Stmt} {x y : List Nat} {Rn : Led → Prop} (hl : Ev C m n l (IsS x)) (hr : EvL C m n r fun n' v => Rn n' ∧ IsS y v) (hxy : x = y) (k : ∀ n', Rn n' → Run C m n' rest Q) (hb : behindInMarks .NotEq r = false := by rfl) : Run C m n (.If (.Compare l [.NotEq] [r] p) a [] p2 :: rest) Q := fun h tk ht H =>
  wpAny_execs_cons (wpAny_If (wpAny_isTrue_Compare1 (hm := hb) (pb (hl h tk ht H) fun _ h tk ht H ⟨t, ea⟩ => pl (hr h tk ht H) fun _ h tk n' ht H ⟨hn, u, eb⟩ => by
    subst ea eb
    refine ne_str (wpAny_truthy_bool ?_)
    have e : (S x != S y) = false := by rw [hxy, bne, S_eqb, decide_eq_true rfl]; rfl
    rw [e, if_neg (by decide)]
    exact wpAny_execs_nil (k n' hn h tk ht H))))
theorem NodesAt.reads {h : Heap} : ∀ {vs : List Value} {t : List (Nat × Nat)}, NodesAt h vs t → ∃ as, ReadsAll h vs (t.map fun nd => .tuple [.int (nd.1 : Int), .str (S [nd.2])]) as
  | _, _, .nil => ⟨_, .nil⟩
  | _, _, .cons ⟨b, t1, t2, e, o, ho, hc, k, hd⟩ r => by
    subst e
    obtain ⟨as, hr⟩ := NodesAt.reads r
    exact ⟨_, .cons (reads_tuple_at ho hc hd (.cons (Reads.int _ _) (.cons (Reads.str _ _) .nil))) hr⟩
noncomputable def treeD (t : List (Nat × Nat)) : PyData := .list (t.map fun nd => .tuple [.int (nd.1 : Int), .str (S [nd.2])])
theorem eqvAll_refl : ∀ l : List PyData, (∀ d ∈ l, PyData.eqv d d = true) → PyData.eqvAll l l = true
  | [], _ => rfl
  | a :: r, h => by rw [PyData.eqvAll, h a (.head _), eqvAll_refl r fun d hd => h d (.tail _ hd)]; rfl
theorem treeD_eqv (t : List (Nat × Nat)) : PyData.eqv (treeD t) (treeD t) = true := by
  rw [treeD, PyData.eqv]
  refine eqvAll_refl _ fun d hd => ?_
  obtain ⟨nd, _, rfl⟩ := List.mem_map.mp hd
  simp [PyData.eqv, PyData.eqvAll]
theorem seenD_eqv (t : List (Int × List Nat × Int)) : PyData.eqv (.list (t.map seenD)) (.list (t.map seenD)) = true := by
  rw [PyData.eqv]
  refine eqvAll_refl _ fun d hd => ?_
  obtain ⟨nd, _, rfl⟩ := List.mem_map.mp hd
  simp [seenD, PyData.eqv, PyData.eqvAll]
theorem shaped_list {α : Type} (f : α → PyData) (t : List α) (h : ∀ a ∈ t, PyData.canLay0 (f a) = true ∧ PyData.depth (f a) ≤ 10) : SeqAt.shaped (.list (t.map f)) = true := by
  have h1 : PyData.canLayAll0 (t.map f) = true ∧ PyData.depthAll (t.map f) ≤ 10 := by
    induction t with
    | nil => exact ⟨rfl, by simp [PyData.depthAll]⟩
    | cons a r ih =>
      have ih := ih fun b hb => h b (.tail _ hb)
      have := h a (.head _)
      refine ⟨by simp [PyData.canLayAll0, this.1, ih.1], ?_⟩
      simp only [List.map_cons, PyData.depthAll]
      omega
  unfold SeqAt.shaped
  rw [Bool.and_eq_true]
  refine ⟨by simp [PyData.canLay0, h1.1], ?_⟩
  have : PyData.depth (.list (t.map f)) = 1 + PyData.depthAll (t.map f) ∨ PyData.depth (.list (t.map f)) = PyData.depthAll (t.map f) + 1 := by simp [PyData.depth]
  have := h1.2
  simp only [decide_eq_true_eq]
  omega
theorem treeD_shaped (t : List (Nat × Nat)) (h : ∀ nd ∈ t, PyData.strOk (S [nd.2]) = true) : SeqAt.shaped (treeD t) = true := shaped_list _ t fun a ha => ⟨by simp [PyData.canLay0, PyData.canLayAll0, h a ha], by simp [PyData.depth, PyData.depthAll]⟩
theorem seenD_shaped (t : List (Int × List Nat × Int)) (h : ∀ a ∈ t, PyData.strOk (S a.2.1) = true) : SeqAt.shaped (.list (t.map seenD)) = true := shaped_list _ t fun a ha => ⟨by simp [seenD, PyData.canLay0, PyData.canLayAll0, h a ha], by simp [seenD, PyData.depth, PyData.depthAll]⟩

theorem Run.ifHeard {l : List (Str × NameKind)} (B : Bod C l) {base : Heap} {fr : List Env} {p : Program} {loose : List Str} {mean : ExcName → Option Value} {mg mb : Str → Option Value} (Z : Cz C.w C.A base fr p loose mean mg mb C.g) (R : Rm C.In 12) {eR : Expr} {p1 p2 p3 p4 p5 p6 : Pos} {k0 : Nat} {a rest : List Stmt} {told : List Nat} {tree : List (Nat × Nat)} {T : Addr}
    (hG : glbIn l "_law_heard" = true) (hR : Ev C m n eR (IsS told)) (hlen : told.length ≤ 10000) (hH : Hears told 0 tree 8) (htl : tree.length ≤ 1000) (hL : locIn l "tree" = true) (hm : m "tree" = some (.ref T)) (hT : ∀ h g, Hd (C.on g) m n h → TreeAt h T tree) (hok : ∀ nd ∈ tree, PyData.strOk (S [nd.2]) = true)
    (k : ∀ g', KtsTurn (fr.filterMap (·.frame)) C.g g' → Cz C.w C.A base fr p loose mean mg mb g' → Bod (C.on g') l → Run (C.on g') m n rest Q)
    (hs : starEach [eR, .Constant (.int 0) k0 p2] C.env = (false, eval eR C.env) :: starEach [.Constant (.int 0) k0 p2] C.env := by rfl) (hs2 : starEach [.Constant (.int 0) k0 p2] C.env = (false, eval (.Constant (.int 0) k0 p2) C.env) :: starEach [] C.env := by rfl)
    (hs3 : (List.any (backTo p3 (starEach [.Constant (.int 0) k0 p2] C.env)) fun x => Prod.fst x) = false := by rfl) :
    Run C m n (.If (.Compare (.Call (.Name "_law_heard" p1) [eR, .Constant (.int 0) k0 p2] [] p3) [.NotEq] [.Name "tree" p4] p5) a [] p6 :: rest) Q := fun h tk ht H => by
  refine wpAny_execs_cons (wpAny_If (wpAny_isTrue_Compare1 (hm := by rfl) ?_))
  refine Call_ (pb (B.topName (B.glb hG) (ns_heard _) h tk ht H) fun _ h tk ht H ef => ?_)
  subst ef
  refine callWith_K (h₀ := C.g) B.cx.kin (kp_heard _) ?_ hs hs3
  refine args_cons (pb (hR h tk ht H) fun v1 h tk ht H ⟨t1, e1⟩ => args_cons (pb (Ev.int (C := C) (m := m) (n := n) (i := 0) (k := k0) (p := p2) h tk ht H) fun v2 h tk ht H ⟨t2, e2⟩ => args_nil ⟨B.cx.kin.keeps H.F.keep, ?_⟩) hs2) hs
  subst e1 e2
  refine (heard_spec (s := C.st h tk) 8 told 0 tree C.In base _ p loose mean mg mb (Z.inner H.F B.kind) (R.le (by omega)) ht t1 t2 hlen (by omega) hH htl).useT ht ?_
  intro h' tk' r ht' hk hN
  obtain ⟨g', T', F', N', Z'⟩ := afterT Z H.F H.N hk
  have H' : Hd (C.on g') m n h' := ⟨F', N', H.D⟩
  have B' : Bod (C.on g') l := ⟨Z'.cx, B.kind, B.names⟩
  have hL' := B'.loc hL
  refine ld H'.F hm ?_ hL'.1 hL'.2.1 hL'.2.2
  obtain ⟨ra, rn, rvs, led, rfl, hled, hnodes⟩ := hN
  obtain ⟨as1, r1⟩ := NodesAt.reads (hnodes.at fun q hq => (hled q (.tail _ hq)).1)
  obtain ⟨tvs, ⟨o, ho, hc, kk, hd⟩, hta⟩ := hT h' g' H'
  obtain ⟨as2, r2⟩ := NodesAt.reads hta
  refine ne_dataH (s := C.st h' tk') (reads_list_at (hled _ (.head _)).1 rfl rfl r1) (reads_list_at ho hc hd r2) (treeD_shaped tree hok) (treeD_shaped tree hok) ?_ (wpAny_truthy_bool ?_)
  · have := R.u
    show C.A.units + 3 + 64 < _
    have h3 : C.In.units = C.A.units + 3 := rfl
    omega
  · rw [show PyData.eqv (.list (tree.map fun nd => .tuple [.int (nd.1 : Int), .str (S [nd.2])])) (.list (tree.map fun nd => .tuple [.int (nd.1 : Int), .str (S [nd.2])])) = true from treeD_eqv tree]
    rw [if_neg (by decide)]
    exact wpAny_execs_nil (k g' T' Z' B' h' tk' ht' H')
end
end Mine
end
-- MLaw3
section
open PySem PySem.W PyProof.Rows PySem.Calls
set_option maxRecDepth 100000
set_option Elab.async false
set_option linter.unusedVariables false
set_option maxHeartbeats 8000000
namespace Mine
theorem fillLw3 : PySem.Challenge.rw_wn0108_01 = PySem.Challenge.rw_wn0108_01 ∧ Mine.hd.heap_39 = Mine.hd.heap_39 := by
  k_fill
  exact ⟨rfl, rfl⟩
theorem enterZ {prog : Program} {w : World} {A : Around} {s : Shared} {base : Heap} {fr : List Env} {p : Program} {loose : List Str} {mean : ExcName → Option Value} {mg mb : Str → Option Value}
    {name qual : Str} {params : Arguments} {body : List Stmt} {scope : Scope} {dV kV doc pm cdv ct oc : Value} {an od : Option Addr} {osl : Array (Option Value)} {f : Addr} {args : List Value} {binds : List (Str × Value)}
    {P : Heap → Value → Prop} (Z : Cz w A base fr p loose mean mg mb s.heap) (ht : 1 ≤ s.toks + binds.length)
    (ho : (hd.heap_39 w.params).lookup f = some ⟨oc, od, .func (fnOf name qual params body scope dV kV doc pm an cdv ct), osl⟩) (hcd : codeIn (hd.heap_39 w.params) cdv qual = true) (hroom : A.depth < recursionLimit)
    (hbind : BindsTo s (fnOf name qual params body scope dV kV doc pm an cdv ct) ⟨args, []⟩ binds) (hloc : ∀ y ∈ binds, scope.names.lookup y.1 = some .local)
    (hcell : ∀ x ∈ scope.names, x.2 ≠ .cell) (hco : scope.isCoroutine = false) (hgen : scope.isGenerator = false) (hk : scope.kind = .function) (hkn : ∀ qual L f cdv x, (envOf qual scope L f cdv).kindOf x = scope.names.lookup x)
    (h : ∀ (C : Fc) (Q : Flow → Shared → Prop), C.prog = prog → C.w = w → C.A = A → C.g = s.heap → Bod C scope.names → Cz C.w C.A base fr p loose mean mg mb C.g →
      (∀ v g' h m n tk, KtsTurn (fr.filterMap (·.frame)) C.g g' → Hd (C.on g') m n h → P h v → Q (.ret v) (C.st h tk)) → Run C (fun y => binds.reverse.lookup y) [] body Q) :
    GivesT prog w A f args s P := by
  refine enterT Z ho hcd hroom hbind hloc hcell hco hgen hk ?_
  intro g L h₁ Q hg F N Z' ret
  subst hg
  exact h ⟨prog, w, A, qual, scope, L, f, cdv, s.gens, s.drawn, s.os, s.heap⟩ Q rfl rfl rfl rfl ⟨Z.cx, hk, fun x => hkn _ _ _ _ x⟩ Z' (fun v g' h' m n tk T H hp => ret v g' h' m tk T H.F hp) h₁ _ ht ⟨F, N, .nil⟩

/-- what the leads' loop keeps -/
noncomputable def LdJ (cv : Value) (rv : Value) (un : Addr) (r : Nat) (rest : Led) (i : Nat) (m : Mp) (n : Led) : Prop :=
  ∃ Le vs j, n = (Le, W.listOf (List.toArray vs) j) :: rest ∧ Strs vs (leadsTo r i) ∧ m "cells" = some cv ∧ m "rest" = some rv ∧ m "units" = some (.ref un) ∧ m "leads" = some (.ref Le)
theorem unit_get (k : Nat) : units6[k % 6]? = some (unit k) := by
  have h : ∀ j, j < 6 → units6[j]? = some (units6.getD j []) := by decide
  exact h _ (Nat.mod_lt _ (by decide))
theorem steps3 {i : Nat} {v : Value} {t1 t2 t3 : Tok} (h : [Value.int 6 t1, .int 36 t2, .int 216 t3][i]? = some v) : i < 3 ∧ IsI ((6 ^ (i + 1) : Nat) : Int) v := by
  have hl : i < 3 := (List.getElem?_eq_some_iff.mp h).1
  refine ⟨hl, ?_⟩
  match i, hl with
  | 0, _ => cases h; exact ⟨_, rfl⟩
  | 1, _ => cases h; exact ⟨_, rfl⟩
  | 2, _ => cases h; exact ⟨_, rfl⟩

theorem Strs.last {vs : List Value} {xs : List (List Nat)} {x : List Nat} (h : Strs vs (xs ++ [x])) : ∃ vs' v, vs = vs' ++ [v] ∧ IsS x v := by
  have hl := h.1
  rw [List.length_append, List.length_cons, List.length_nil] at hl
  obtain ⟨v, hv, hx⟩ := h.get (i := xs.length) (x := x) (by rw [List.getElem?_append_right (Nat.le_refl _), Nat.sub_self]; rfl)
  refine ⟨vs.take xs.length, v, ?_, hx⟩
  obtain ⟨h1, h2⟩ := List.getElem?_eq_some_iff.mp hv
  rw [← h2, List.take_append_getElem h1, List.take_of_length_le (by omega)]
noncomputable def LdD (cv : Value) (rv : Value) (un : Addr) (r : Nat) (base : Led) (m : Mp) (n : Led) : Prop := ∃ p n', n.Perm n' ∧ LdJ cv rv un r (p :: base) 3 m n'
theorem Ev.binV {C : Fc} {m : Mp} {n : Led} {P P1 P2 : Value → Prop} {l r : Expr} {op : Operator} {p : Pos} (hl : Ev C m n l P1) (hr : Ev C m n r P2)
    (k : ∀ a b h tk, P1 a → P2 b → 1 ≤ tk → Hd C m n h → wpAny C.M C.In (binaryOp op a b) (Post C m (same n P)) NoE (C.st h tk)) : Ev C m n (.BinOp l op r p) P := Ev.binP hl hr k
theorem LinesOf.length {r : Nat} : ∀ {t : List (Nat × Nat)} {xs : List (List Nat)}, LinesOf r t xs → t.length = xs.length
  | _, _, .nil => rfl
  | _, _, .snoc h _ => by rw [List.length_append, List.length_append, h.length]; rfl
theorem rot3s (d a b c : Addr × Obj) (r : Led) : (d :: a :: b :: c :: r).Perm (c :: b :: a :: d :: r) :=
  ((List.reverse_perm [c, b, a, d]).append_right r)
theorem treeL_len : ∀ (l : List Nat) (p : Nat), (treeL l p).length = l.length
  | [], _ => rfl
  | c :: r, p => by rw [treeL, List.length_cons, List.length_cons, treeL_len r]
theorem sign_ok (c : Nat) : PyData.strOk (S [sign c]) = true ∧ PyData.strOk (S (spelledL 2 (sign c) 1)) = true := by
  have h : ∀ k, k < 9 → PyData.strOk (S [signs.getD k 0]) = true ∧ PyData.strOk (S (spelledL 2 (signs.getD k 0) 1)) = true := by decide +kernel
  exact h _ (Nat.mod_lt _ (by decide))
theorem treeL_all : ∀ (l : List Nat) (p : Nat), ∀ nd ∈ treeL l p, nd.1 ≤ 3 ∧ PyData.strOk (S [nd.2]) = true ∧ PyData.strOk (S (spelledL 2 nd.2 1)) = true
  | [], _, _, h => nomatch h
  | c :: r, p, nd, h => by
    rw [treeL] at h
    rcases List.mem_cons.mp h with rfl | h
    · have := Nat.mod_lt c (y := min (p + 1) 4) (by omega)
      exact ⟨by show c % min (p + 1) 4 ≤ 3; omega, sign_ok c⟩
    · exact treeL_all r _ nd h
theorem lines_len {r : Nat} : ∀ {t : List (Nat × Nat)} {xs : List (List Nat)}, LinesOf r t xs → (∀ nd ∈ t, nd.1 ≤ 3) → ∀ x ∈ xs, x.length ≤ 900
  | _, _, .nil, _, _, h => nomatch h
  | _, _, @LinesOf.snoc _ _ _ nd _ hL hx, hd, y, hy => by
    rcases List.mem_append.mp hy with hy | hy
    · exact lines_len hL (fun nd hnd => hd nd (List.mem_append_left _ hnd)) y hy
    · rw [List.mem_singleton.mp hy]
      have hd3 := hd nd (List.mem_append_right _ (.head _))
      obtain ⟨closed, closed', last, rfl, q1, q2, _⟩ := hx
      have h1 := J_perm_len (last := last) q2
      rw [← q1] at h1
      have h2 := lead_len r nd.1
      have h3 := esc_one 2 nd.2
      rw [List.length_append]; omega
theorem law_spec (hM1 : ∀ cells hand, cells.length = 6 → hand < 5 → within hand (treeL cells 0) 0 = plainL hand (treeL cells 0))
    (hM2 : ∀ cells, cells.length = 6 → Hears (repliesL (treeL cells 0) ++ lastL) 0 (treeL cells 0) 8)
    (hM3 : ∀ r cells size xs, cells.length = 6 → 2 ≤ size → LinesOf r (treeL cells 0) xs → seenR size xs [] = (treeL cells 0).map (dueOf r size)) {prog : Program} {w : World} {A : Around} {s : Shared} {base : Heap} {fr : List Env} {p : Program} {loose : List Str} {mean : ExcName → Option Value} {mg mb : Str → Option Value} (Z : Cz w A base fr p loose mean mg mb s.heap)
    (R : Rm A 20) {sc : Addr} {vs : List Value} {ns : List Int} (hl : s.heap.IsList sc vs.toArray) (hi : IntsAre vs ns) (hlen : ns.length < 2 ^ 62) :
    GivesT prog w A 243 [.ref sc] s (fun h r => r = .bool true) := by
  refine enterZ (binds := [("script", .ref sc)]) Z (by show 1 ≤ s.toks + 1; omega) (by k_is) (by k_is) (by have := R.d; omega) (BindsTo.of_eq rfl) (locs rfl) (by decide) rfl rfl rfl (fun _ _ _ _ _ => rfl) ?_
  clear Z
  rintro C Q rfl rfl rfl hg B Z ret
  rw [← hg] at hl
  have R' : Rm C.In 19 := R.inner
  refine .assignL (B.loc rfl) (ev_cells B rfl (R'.le (by omega)) hl hi hlen (Ev.name (P := Is (.ref sc)) (B.loc rfl) rfl rfl) rfl) ?_
  rintro n1 v1 ⟨ca, co, cv, cs, rfl, rfl, c1, ⟨ck, c2⟩, c3, c4, c5⟩
  have hcells : ∀ {m n}, (ca, co) ∈ n → ∀ h, Hd C m n h → h.IsList ca cv.toArray := fun hm h H => ⟨co, (H.N _ hm).1, c1, ck, c2⟩
  obtain ⟨r, hr⟩ : ∃ r : Nat, cs.getD 6 0 = (r : Int) := ⟨(cs.getD 6 0).toNat, by
    have := (c5 (cs.getD 6 0) (by rw [List.getD_eq_getElem?_getD, List.getElem?_eq_getElem (by omega)]; exact List.getElem_mem _)).1
    omega⟩
  obtain ⟨rv, hrv, hrI⟩ := ilW_item c3 (i := 6) (by omega)
  rw [hr] at hrI
  refine .assign (P := IsI (r : Int)) (B.loc rfl) (.item (k := 6) (.name (P := Is (.ref ca)) (B.loc rfl) rfl rfl) .int fun h H => ⟨cv, hcells (.head _) h H, by rw [c3.length, c4]; decide, hrv, hrI⟩) fun rv hrI => ?_
  refine .assignL (B.loc rfl) (.list (R := fun n v => ∃ D vs, n = [(D, W.listOf (List.toArray vs) 0), (ca, co)] ∧ v = .ref D ∧ Strs vs units6) (RA := fun n' vs => n' = [(ca, co)] ∧ Strs vs units6)
    (.consP (P1 := IsS [32]) (.str (by decide +kernel)) fun v1 h1 => .consP (P1 := IsS [9]) (.str (by decide +kernel)) fun v2 h2 => .consP (P1 := IsS [32, 32]) (.str (by decide +kernel)) fun v3 h3 => .consP (P1 := IsS [32, 9]) (.str (by decide +kernel)) fun v4 h4 => .consP (P1 := IsS [9, 32]) (.str (by decide +kernel)) fun v5 h5 => .consP (P1 := IsS [32, 32, 9, 32, 9]) (.str (by decide +kernel)) fun v6 h6 =>
      .nil ⟨rfl, (((((Strs.nil.snoc h1).snoc h2).snoc h3).snoc h4).snoc h5).snoc h6⟩)
    (fun n' vs D h _ => ⟨D, vs, by rw [h.1], rfl, h.2⟩) (fun n' vs h => by rw [h.2.1, sizeLine_eq]; decide)) ?_
  rintro n2 v2 ⟨un, uv, rfl, rfl, hu⟩
  obtain ⟨u0, hu0, hu0v⟩ := hu.get (unit_get r)
  have hul : uv.length = 6 := hu.1
  refine .assignL (B.loc rfl) (.list (R := fun n v => ∃ D vs, n = [(D, W.listOf (List.toArray vs) 0), (un, W.listOf (List.toArray uv) 0), (ca, co)] ∧ v = .ref D ∧ Strs vs (leadsTo r 0)) (RA := fun n' vs => n' = [(un, W.listOf (List.toArray uv) 0), (ca, co)] ∧ Strs vs (leadsTo r 0))
    (.consP (P1 := IsS ((unit r).drop 1)) (.sliceFrom (.item (P := IsS (unit r)) (.name (P := Is (.ref un)) (B.loc rfl) rfl rfl) (.modN (b := 6) (.name (B.loc rfl) rfl hrI) .int (by decide)) fun h H => ⟨uv, News.isList H.N (.head _), by rw [hul]; decide, hu0, hu0v⟩) .int (by have := units6_len r; omega)) fun v1 h1 => .nil ⟨rfl, Strs.nil.snoc h1⟩)
    (fun n' vs D h _ => ⟨D, vs, by rw [h.1], rfl, h.2⟩) (fun n' vs h => by rw [h.2.1, leadsTo_len, sizeLine_eq]; decide)) ?_
  rintro n3 v3 ⟨Le, lv, rfl, rfl, hlv⟩
  obtain ⟨base, hbase⟩ : ∃ base : Led, base = [(un, W.listOf (List.toArray uv) 0), (ca, co)] := ⟨_, rfl⟩
  rw [← hbase]
  have hun : (un, W.listOf (List.toArray uv) 0) ∈ base := hbase ▸ .head _
  refine B.forTup (LdD (.ref ca) rv un r base) rfl (.tuple (R := fun n v => ∃ D t1 t2 t3, n = (D, { cls := .type "tuple", data := .seq #[Value.int 6 t1, .int 36 t2, .int 216 t3] }) :: (Le, W.listOf (List.toArray lv) 0) :: base ∧ v = .ref D) (RA := fun n' vs => n' = (Le, W.listOf (List.toArray lv) 0) :: base ∧ ∃ t1 t2 t3, vs = [Value.int 6 t1, .int 36 t2, .int 216 t3])
    (.consP (P1 := IsI 6) .int fun v1 ⟨t1, h1⟩ => .consP (P1 := IsI 36) .int fun v2 ⟨t2, h2⟩ => .consP (P1 := IsI 216) .int fun v3 ⟨t3, h3⟩ => .nil ⟨rfl, t1, t2, t3, by rw [h1, h2, h3]⟩)
    (fun n' vs D ⟨h1, t1, t2, t3, h2⟩ _ => ⟨D, t1, t2, t3, by rw [h1, h2], rfl⟩) (fun n' vs ⟨h1, t1, t2, t3, h2⟩ => by rw [h2, sizeLine_eq]; exact (by decide : 3 ≤ 16777216))) ?_ ?_
  · rintro n0 v ⟨D, t1, t2, t3, rfl, rfl⟩
    refine ⟨D, [Value.int 6 t1, .int 36 t2, .int 216 t3], 0, fun i m n => ∃ n', n.Perm n' ∧ LdJ (.ref ca) rv un r ((D, { cls := .type "tuple", data := .seq #[Value.int 6 t1, .int 36 t2, .int 216 t3] }) :: base) i m n', rfl, .head _, ?_, ⟨_, List.Perm.swap _ _ _, Le, lv, 0, rfl, hlv, rfl, rfl, rfl, rfl⟩, ?_, ?_⟩
    · rintro i m n ⟨n', hp, Le, vs, j, rfl, _⟩
      exact hp.mem_iff.mpr (.tail _ (.head _))
    · rintro i v m₁ n₁ I oI Q' hiv ⟨n', hp, Le, vs, j, rfl, hvs, e1, e2, e3, e4⟩ T
      obtain ⟨hi3, hv⟩ := steps3 hiv
      obtain ⟨xs, hxs⟩ := leadsTo_last r i
      rw [hxs] at hvs
      obtain ⟨vs', lv', rfl, hlv'⟩ := hvs.last
      rw [← hxs] at hvs
      obtain ⟨u1, hu1, hu1v⟩ := hu.get (unit_get (r / 6 ^ (i + 1)))
      refine .perm (.cons _ hp) ?_
      have h6 : 6 ^ (i + 1) < 1073741824 := Nat.lt_of_le_of_lt (Nat.pow_le_pow_right (by decide) (show i + 1 ≤ 3 by omega)) (by decide)
      have hll := lead_len r i
      have hul' := units6_len (r / 6 ^ (i + 1))
      have hvl := hvs.1
      rw [leadsTo_len] at hvl
      refine .append (D := Le) (B.loc rfl) e4 ⟨_, _, .tail _ (.head _)⟩ (Ev.addS (.last (.name (P := Is (.ref Le)) (B.loc rfl) e4 rfl) (.negI .int) fun h H => ⟨vs', News.isList H.N (.tail _ (.head _)), hlv'⟩)
        (.item (P := IsS (unit (r / 6 ^ (i + 1)))) (.name (P := Is (.ref un)) (B.loc rfl) e3 rfl) (.modN (b := 6) (.divN (.name (B.loc rfl) e2 hrI) (.name (B.loc rfl) rfl hv) (six i) h6) .int (by decide)) fun h H => ⟨uv, News.isList H.N (.tail _ (.tail _ (.tail _ hun))), by rw [hul]; decide, hu1, hu1v⟩) (by omega)) ?_
      rintro n' v' ⟨rfl, hv'⟩ hd
      refine ⟨[(I, oI)], _, _, j, rfl, by omega, T.run ⟨_, List.Perm.refl _, Le, _, _, rfl, ?_, e1, e2, e3, e4⟩⟩
      rw [leadsTo]
      exact hvs.snoc hv'
    · exact fun m₁ n₁ ⟨n', hp, hJ⟩ => ⟨_, n', hp, hJ⟩
  rintro m₁ n₁ ⟨pD, n', hp, Le, lv, jl, rfl, hlv, e1, e2, e3, e4⟩
  refine .perm hp ?_
  refine .assign (P := IsI ((r / 1296 % 5 : Nat) : Int)) (B.loc rfl) (.modN (b := 5) (.divN (b := 1296) (.name (B.loc rfl) e2 hrI) .int (by decide) (by decide)) .int (by decide)) fun hv hhv => ?_
  refine .assign (P := IsI ((2 + r / 6480 % 7 : Nat) : Int)) (B.loc rfl) (.weak (.addI .int (.modN (b := 7) (.divN (b := 6480) (.name (B.loc rfl) e2 hrI) .int (by decide) (by decide)) .int (by decide))) fun v h => h.of (by omega)) fun sv hsv => ?_
  refine .assignL (B.loc rfl) (ev_ends B rfl (R'.le (by omega)) (hand := 2) (by decide) .int rfl) ?_
  rintro n4 v4 ⟨ta, to, rfl, rfl, tlo, hE⟩
  obtain ⟨base2, hbase2⟩ : ∃ base2 : Led, base2 = (ta, to) :: (Le, W.listOf (List.toArray lv) jl) :: pD :: base := ⟨_, rfl⟩
  rw [← hbase2]
  have nilL : ∀ {m n p}, EvL C m n (.List [] p) fun n' v => ∃ D, n' = (D, W.listOf #[] 0) :: n ∧ v = .ref D := fun {m n p} =>
    .list (.nil (R := fun n' vs => n' = n ∧ vs = []) ⟨rfl, rfl⟩) (fun n' vs D h _ => ⟨D, by rw [h.1, h.2], rfl⟩) (fun n' vs h => by rw [h.2]; decide)
  refine .assignL (B.loc rfl) nilL ?_
  rintro n5 v5 ⟨T0, rfl, rfl⟩
  refine .assignL (B.loc rfl) nilL ?_
  rintro n6 v6 ⟨L0, rfl, rfl⟩
  refine .assignL (B.loc rfl) nilL ?_
  rintro n7 v7 ⟨D0, rfl, rfl⟩
  refine .assign (P := IsI (-1)) (B.loc rfl) (.negI .int) fun dv hdv => ?_
  obtain ⟨cells, hcl⟩ : ∃ cells : List Nat, cells = (cs.take 6).map Int.toNat := ⟨_, rfl⟩
  have hcl6 : cells.length = 6 := by rw [hcl, List.length_map, List.length_take, c4]; rfl
  have hcv : ∀ (i : Nat) v, (cv.take 6)[i]? = some v → ∃ c : Nat, cells[i]? = some c ∧ c < 1000000 ∧ IsI (c : Int) v ∧ i < 6 := by
    intro i v hv
    have hi6 : i < 6 := by
      have := (List.getElem?_eq_some_iff.mp hv).1
      rw [List.length_take] at this; omega
    rw [List.getElem?_take_of_lt hi6] at hv
    obtain ⟨v', hv', hI⟩ := ilW_item c3 (i := i) (by omega)
    rw [hv] at hv'
    cases hv'
    have hc : cs[i]? = some (cs.getD i 0) := by rw [List.getD_eq_getElem?_getD, List.getElem?_eq_getElem (by omega)]; rfl
    obtain ⟨h0, h1⟩ := c5 _ (List.mem_of_getElem? hc)
    refine ⟨(cs.getD i 0).toNat, ?_, by omega, hI.of (by omega), hi6⟩
    rw [hcl, List.getElem?_map, List.getElem?_take_of_lt hi6, hc]; rfl
  have hca : (ca, co) ∈ base2 := by rw [hbase2, hbase]; simp
  have hLe : (Le, W.listOf (List.toArray lv) jl) ∈ base2 := by rw [hbase2]; exact .tail _ (.head _)
  have hta : (ta, to) ∈ base2 := by rw [hbase2]; exact .head _
  have hEA : ∀ {m n}, (∀ q ∈ base2, q ∈ n) → ∀ h, Hd C m n h → EndsAt C.prog C.w h ta 2 := fun hk h H => ⟨to, (H.N _ (hk _ hta)).1, tlo, hE⟩
  refine B.forNew (LwJ C.w base2 T0 L0 D0 Le ta sv hv r (2 + r / 6480 % 7) cells 6) rfl (.takeL (R := fun n v => ∃ D, n = (D, W.listOf (List.toArray (cv.take 6)) 0) :: (D0, W.listOf #[] 0) :: (L0, W.listOf #[] 0) :: (T0, W.listOf #[] 0) :: base2 ∧ v = .ref D) (b := 6) (.name (P := Is (.ref ca)) (B.loc rfl) e1 rfl) .int (fun h H => hcells (.tail _ (.tail _ (.tail _ hca))) h H) (by rw [c3.length, c4]; decide) (fun D _ => ⟨D, rfl, rfl⟩)) ?loop ?after
  case loop =>
    rintro n0 v ⟨D1, rfl, rfl⟩
    refine ⟨D1, cv.take 6, 0, LwJ C.w ((D1, W.listOf (List.toArray (cv.take 6)) 0) :: base2) T0 L0 D0 Le ta sv hv r (2 + r / 6480 % 7) cells, rfl, .head _, ?mem, ?start, ?turn, ?done⟩
    case mem =>
      rintro i m n ⟨_, so, p, dv, ⟨n', tv, lv', dv', j1, j2, j3, rest, xs, hp, rfl, hk, _⟩, _⟩
      exact hp.mem_iff.mpr (.tail _ (.tail _ (.tail _ (hk _ (.head _)))))
    case start =>
      refine ⟨⟨rfl, rfl, rfl, e4, rfl, rfl, rfl⟩, [], 0, dv, ⟨_, [], [], [], 0, 0, 0, _, [], (rot3s _ _ _ _ _), rfl, fun q hq => hq, .nil, .nil, .nil, .nil⟩, rfl, hdv, rfl, by decide, rfl⟩
    case done =>
      intro m₁ n₁ hJ
      rw [show (cv.take 6).length = 6 from by rw [List.length_take, c3.length, c4]; rfl] at hJ
      obtain ⟨hM, so, p, dv, ⟨n', tv, lv', dv', j1, j2, j3, rest, xs, hp, e, hk, h1⟩, h2⟩ := hJ
      exact ⟨hM, so, p, dv, ⟨n', tv, lv', dv', j1, j2, j3, rest, xs, hp, e, fun q hq => hk q (.tail _ hq), h1⟩, h2⟩
    case turn =>
      rintro i v m₁ n₁ I oI Q' hiv ⟨hM, so, p, dv, ⟨n', tv, lv', dvs, j1, j2, j3, rest, xs, hp, rfl, hk, hT, hLs, hLo, hDu⟩, hde, hdI, hso, hp4, hsl⟩ T
      obtain ⟨c, hc, hclt, hcI, hi6⟩ := hcv i v hiv
      refine .perm (.cons _ hp) ?_
      obtain ⟨q, hq⟩ : ∃ q, q = min (p + 1) 4 := ⟨_, rfl⟩
      have hq0 : 0 < q ∧ q ≤ 4 := by omega
      refine .assign (P := IsI ((c % q : Nat) : Int)) (B.loc rfl) (.modN (.name (B.loc rfl) rfl hcI) (B.callB rfl (ns_min _) (by boot_fast) (by decide +kernel) (RA := fun n'' vs => n'' = _ ∧ ∃ v1 v2, vs = [v1, v2] ∧ IsI ((p : Int) - 1 + 2) v1 ∧ IsI 4 v2)
        (.consP (.addI (.name (B.loc rfl) hde hdI) .int) fun v1 h1 => .consP .int fun v2 h2 => .nil ⟨rfl, v1, v2, rfl, h1, h2⟩) ?_) (by omega)) fun nv hnv => ?_
      · rintro n'' vs' h tk ⟨rfl, v1, v2, rfl, ⟨u1, rfl⟩, u2, rfl⟩ ht H
        refine wpAny_with_toks (n := 1) ht (min_two_N (s := C.st h tk) B.cx.hh H.F H.N fun h' tk' F' N' ht' => .mk ht' ⟨F', N', H.D⟩ ⟨_, congrArg (fun x => Value.int x _) ?_⟩)
        split <;> omega
      obtain ⟨d, hd⟩ : ∃ d, d = c % q := ⟨_, rfl⟩
      rw [← hd] at hnv
      have hdq : d ≤ 3 ∧ d ≤ p := by have := Nat.mod_lt c hq0.1; omega
      have hsg := sign_lt c
      have hll := lead_len r d
      obtain ⟨ldv, hld, hldv⟩ := hlv.get (leadsTo_get r 3 d hdq.1)
      have hlvl := hlv.1
      rw [leadsTo_len] at hlvl
      have hLe' : ∀ {pre : Led}, ∀ h m, Hd C m (pre ++ rest) h → ∃ vs : List Value, h.IsList Le vs.toArray ∧ vs.length < 2 ^ 62 ∧ vs[d]? = some ldv ∧ IsS (lead r d) ldv := fun h m H =>
        ⟨lv, News.isList H.N (List.mem_append_right _ (hk _ (.tail _ hLe))), by rw [hlvl]; decide, hld, hldv⟩
      have hEr : ∀ {pre : Led}, ∀ h m, Hd C m (pre ++ rest) h → EndsAt C.prog C.w h ta 2 := fun h m H => hEA (fun q hq => List.mem_append_right _ (hk _ (.tail _ hq))) h H
      refine .assign (P := IsS [sign c]) (B.loc rfl) (.char (l := signs) (.str (by decide +kernel)) (.modN (b := 9) (.divN (b := 12) (.name (B.loc rfl) rfl hcI) .int (by decide) (by decide)) .int (by decide)) (sign_get c) (by decide)) fun sgv hsgv => ?_
      -- the tree
      refine .append (D := T0) (R := fun n'' v => ∃ D t1 t2, v = .ref D ∧ n'' = (D, { cls := .type "tuple", data := .seq #[Value.int (d : Int) t1, .str (S [sign c]) t2] }) :: [(I, oI), (T0, W.listOf (List.toArray tv) j1), (L0, W.listOf (List.toArray lv') j2), (D0, W.listOf (List.toArray dvs) j3)] ++ rest) (B.loc rfl) hM.tree ⟨_, _, .tail _ (.head _)⟩
        (.tuple (RA := fun n'' vs => n'' = [(I, oI), (T0, W.listOf (List.toArray tv) j1), (L0, W.listOf (List.toArray lv') j2), (D0, W.listOf (List.toArray dvs) j3)] ++ rest ∧ ∃ t1 t2, vs = [Value.int (d : Int) t1, .str (S [sign c]) t2])
          (.consP (P1 := IsI (d : Int)) (.name (B.loc rfl) rfl hnv) fun v1 ⟨t1, h1⟩ => .consP (P1 := IsS [sign c]) (.name (B.loc rfl) rfl hsgv) fun v2 ⟨t2, h2⟩ => .nil ⟨rfl, t1, t2, by rw [h1, h2]⟩)
          (fun n'' vs D ⟨e, t1, t2, e'⟩ _ => ⟨D, t1, t2, rfl, by rw [e, e']; rfl⟩) (fun n'' vs ⟨e, t1, t2, e'⟩ => by rw [e', sizeLine_eq]; exact (by decide : 2 ≤ 16777216))) ?_
      rintro n'' v' ⟨Dt, t1, t2, rfl, rfl⟩ hdis
      refine ⟨[(Dt, _), (I, oI)], _, tv, j1, rfl, by rw [hT.length, hsl]; omega, ?_⟩
      -- the lines
      refine .append (D := L0) (B.loc rfl) hM.lines ⟨_, _, .tail _ (.tail _ (.tail _ (.head _)))⟩
        (Ev.binV (P := fun v => ∃ x, LineOf r (d, sign c) x ∧ IsS x v) (P1 := fun v => ∃ closed closed' last, lead r d = J closed last ∧ closed'.Perm closed ∧ (∀ q ∈ closed, 9 ∉ q) ∧ 9 ∉ last ∧ IsS (J closed' last) v) (P2 := IsS (esc 2 [sign c]))
          (B.pure2 (P1 := IsS (lead r d)) (P2 := IsI ((c / 108 : Nat) : Int)) rfl (ns_turned _) (kp_turned _) (.item (k := d) (.name (P := Is (.ref Le)) (B.loc rfl) hM.leads rfl) (.name (B.loc rfl) rfl hnv) fun h H => hLe' (pre := [_, _, _, _, _]) h _ H) (.divN (b := 108) (.name (B.loc rfl) rfl hcI) .int (by decide) (by decide)) ?lt)
          (B.pure1 (P1 := IsS [sign c]) rfl (ns_attrib _) (kp_attrib _) (.name (B.loc rfl) rfl hsgv) ?le) ?ladd) ?_
      case lt =>
        rintro v1 v2 h tk ⟨u1, rfl⟩ ⟨u2, rfl⟩ ht H
        refine (turned_spec (s := C.st h tk) (B.inner H) (R'.le (by omega)) ht (by omega) (Nat.le_trans (Nat.div_le_self _ _) (by omega))).mono fun h' r' ⟨t, closed, closed', last, e, q1, q2, q3, q4⟩ => ⟨closed, closed', last, q1, q2, q3, q4, t, e⟩
      case le =>
        rintro v1 h tk ⟨u1, rfl⟩ ht H
        exact (written2 (s := C.st h tk) (B.inner H) (R'.le (by omega)) ht (by show 1 ≤ 200000; decide)).mono fun h' r' ⟨t, e⟩ => ⟨t, e⟩
      case ladd =>
        rintro a b h tk ⟨closed, closed', last, q1, q2, q3, q4, u1, rfl⟩ ⟨u2, rfl⟩ ht H
        have hjl := J_perm_len (last := last) q2
        rw [← q1] at hjl
        have := esc_one 2 (sign c)
        exact Mine.addS ht rfl rfl (by omega) fun t' tk' ht' => .mk ht' H ⟨_, ⟨closed, closed', last, rfl, q1, q2, q3, q4⟩, t', rfl⟩
      rintro n'' lnv ⟨rfl, x, hx, hxv⟩ hdis2
      refine ⟨[(Dt, _), (I, oI), (T0, _)], _, lv', j2, rfl, by rw [hLs.1, ← LinesOf.length hLo, hsl]; omega, ?_⟩
      -- the dues
      have hsz : 0 < 2 + r / 6480 % 7 ∧ 2 + r / 6480 % 7 ≤ 100 := by omega
      refine .append (D := D0) (R := fun n'' v => ∃ D v1 v2 v3, v = .ref D ∧ n'' = (D, { cls := .type "tuple", data := .seq #[v1, v2, v3] }) :: [(Dt, { cls := .type "tuple", data := .seq #[Value.int (d : Int) t1, .str (S [sign c]) t2] }), (I, oI), (T0, W.listOf (tv ++ [Value.ref Dt]).toArray (j1 + 1)), (L0, W.listOf (lv' ++ [lnv]).toArray (j2 + 1)), (D0, W.listOf (List.toArray dvs) j3)] ++ rest ∧
          IsI (d : Int) v1 ∧ IsS (spelledL 2 (sign c) 1) v2 ∧ IsI (columnL (2 + r / 6480 % 7) (lead r d) : Int) v3) (B.loc rfl) hM.due ⟨_, _, .tail _ (.tail _ (.tail _ (.tail _ (.head _))))⟩
        (.tuple (RA := fun n'' vs => n'' = [(Dt, { cls := .type "tuple", data := .seq #[Value.int (d : Int) t1, .str (S [sign c]) t2] }), (I, oI), (T0, W.listOf (tv ++ [Value.ref Dt]).toArray (j1 + 1)), (L0, W.listOf (lv' ++ [lnv]).toArray (j2 + 1)), (D0, W.listOf (List.toArray dvs) j3)] ++ rest ∧
            ∃ v1 v2 v3, vs = [v1, v2, v3] ∧ IsI (d : Int) v1 ∧ IsS (spelledL 2 (sign c) 1) v2 ∧ IsI (columnL (2 + r / 6480 % 7) (lead r d) : Int) v3)
          (.consP (P1 := IsI (d : Int)) (.name (B.loc rfl) rfl hnv) fun v1 h1 =>
            .consP (P1 := IsS (spelledL 2 (sign c) 1)) (B.pure3 (P1 := IsS [sign c]) (P2 := IsI ((1 : Nat) : Int)) (P3 := Is (.ref ta)) rfl (ns_spelled _) (kp_spelled _) (.name (B.loc rfl) rfl hsgv) .int (.name (B.loc rfl) hM.table rfl) ?dsp) fun v2 h2 =>
            .consP (P1 := IsI (columnL (2 + r / 6480 % 7) (lead r d) : Int)) (B.pure2 (P1 := IsS (lead r d)) (P2 := IsI ((2 + r / 6480 % 7 : Nat) : Int)) rfl (ns_column _) (kp_column _) (.item (k := d) (.name (P := Is (.ref Le)) (B.loc rfl) hM.leads rfl) (.name (B.loc rfl) rfl hnv) fun h H => hLe' (pre := [_, _, _, _, _]) h _ H) (.name (B.loc rfl) hM.size hsv) ?dco) fun v3 h3 => .nil ⟨rfl, v1, v2, v3, rfl, h1, h2, h3⟩)
          (fun n'' vs D ⟨e, v1, v2, v3, e', h⟩ _ => ⟨D, v1, v2, v3, rfl, by rw [e, e']; rfl, h⟩) (fun n'' vs ⟨e, v1, v2, v3, e', _⟩ => by rw [e', sizeLine_eq]; exact (by decide : 3 ≤ 16777216))) ?_
      case dsp =>
        rintro w1 w2 w3 h tk ⟨u1, rfl⟩ ⟨u2, rfl⟩ rfl ht H
        exact (spelled_spec (s := C.st h tk) (B.inner H) (R'.le (by omega)) ht (hEr (pre := [_, _, _, _, _]) h _ H) (by decide)).mono fun h' r' ⟨t, e⟩ => ⟨t, e⟩
      case dco =>
        rintro w1 w2 h tk ⟨u1, rfl⟩ ⟨u2, rfl⟩ ht H
        exact (column_spec (s := C.st h tk) (B.inner H) (R'.le (by omega)) ht (by omega) hsz.1 hsz.2).mono fun h' r' ⟨t, e⟩ => ⟨t, e⟩
      rintro n'' v' ⟨Dn, w1, w2, w3, rfl, rfl, h1, h2, h3⟩ hdis3
      refine ⟨[(Dn, _), (Dt, _), (I, oI), (T0, _), (L0, _)], rest, dvs, j3, rfl, by rw [hDu.length, List.length_map, hsl]; omega, ?_⟩
      refine .perm (List.perm_middle (l₁ := [(Dn, _), (Dt, _)])) (T.run ⟨⟨hM.tree, hM.lines, hM.due, hM.leads, hM.table, hM.size, hM.hand⟩, so ++ [(d, sign c)], d + 1, nv, ⟨_, _, _, _, _, _, _, _, _, (List.perm_append_comm (l₁ := [(Dn, _), (Dt, _)]) (l₂ := [(T0, _), (L0, _), (D0, _)])).append_right rest, rfl, ?_, (hT.mono ?_).append (.cons (.tail _ (.head _)) rfl ⟨_, rfl⟩ .nil), hLs.snoc hxv, .snoc hLo hx, ?_⟩, rfl, hnv.of (by omega), ?_, by omega, by rw [List.length_append, hsl]; rfl⟩)
      · exact fun q hq => .tail _ (.tail _ (hk q hq))
      · exact fun q hq => .tail _ (.tail _ hq)
      · rw [List.map_append]
        exact .snoc (hDu.mono fun q hq => .tail _ (.tail _ hq)) (.head _) h1 h2 h3
      · have hdr : cells.drop i = c :: cells.drop (i + 1) := by
          obtain ⟨g1, g2⟩ := List.getElem?_eq_some_iff.mp hc
          rw [← g2]; exact List.drop_eq_getElem_cons g1
        rw [← hso, hdr, treeL, ← hq, ← hd, List.append_assoc]; rfl
  case after =>
    rintro m₁ n₁ ⟨hM, so, p, dv, ⟨n', tv, lv', dvs, j1, j2, j3, rest, xs, hp, rfl, hk, hT, hLs, hLo, hDu⟩, _, _, hso, _, hsl⟩
    rw [List.drop_of_length_le (by omega), treeL, List.append_nil] at hso
    subst hso
    have hlen6 : (treeL cells 0).length = 6 := hsl
    have hall := treeL_all cells 0
    obtain ⟨hand, hhand⟩ : ∃ hand, hand = r / 1296 % 5 := ⟨_, rfl⟩
    rw [← hhand] at hhv
    have hh5 : hand < 5 := by omega
    refine .perm hp ?_
    obtain ⟨cur, hcur⟩ : ∃ cur : Led, cur = (T0, W.listOf (List.toArray tv) j1) :: (L0, W.listOf (List.toArray lv') j2) :: (D0, W.listOf (List.toArray dvs) j3) :: rest := ⟨_, rfl⟩
    rw [← hcur]
    have hres : ∀ q ∈ rest, q ∈ cur := fun q hq => by rw [hcur]; exact .tail _ (.tail _ (.tail _ hq))
    have hTr : ∀ {C' : Fc} {m n}, (∀ q ∈ cur, q ∈ n) → ∀ h, Hd C' m n h → TreeAt h T0 (treeL cells 0) := fun {C' m n} hq h H => ⟨tv, News.isList H.N (hq _ (by rw [hcur]; exact .head _)), hT.at fun q hh => (H.N q (hq q (hres q hh))).1⟩
    refine .ifNeS (x := within hand (treeL cells 0) 0) (y := plainL hand (treeL cells 0)) (Rn := fun n' => ∃ q, n' = q :: cur)
      (B.pure3 (P1 := Is (.ref T0)) (P2 := IsI ((0 : Nat) : Int)) (P3 := IsI (hand : Int)) rfl (ns_within _) (kp_within _) (.name (B.loc rfl) hM.tree rfl) .int (.name (B.loc rfl) hM.hand hhv) ?w1)
      (B.call rfl (ns_plain _) (kp_plain _) (RA := fun n'' vs => ∃ a o, n'' = (a, o) :: cur ∧ vs = [.ref T0, .ref a] ∧ (a == sysModules) = false ∧ EndsObj C.prog C.w o hand)
        (.consP (P1 := Is (.ref T0)) (.name (B.loc rfl) hM.tree rfl) fun v1 h1 => .cons (ev_ends B rfl (R'.le (by omega)) hh5 (.name (B.loc rfl) hM.hand hhv) rfl) fun n'' v ⟨a, o, ev, en, lo, hEo⟩ => .nil ⟨a, o, en, by rw [ev, show v1 = .ref T0 from h1], lo, hEo⟩) ?w2)
      (hM1 cells hand hcl6 hh5) ?_
    case w1 =>
      rintro w1 w2 w3 h tk rfl ⟨u2, rfl⟩ ⟨u3, rfl⟩ ht H
      exact (within_spec hh5 6 (treeL cells 0) 0 C.In (C.st h tk) (B.inner H) (R'.le (by omega)) ht T0 u2 u3 (by omega) (by omega) (by omega) (hTr (fun q hq => hq) h H)).mono fun h' r' ⟨t, e⟩ => ⟨t, e⟩
    case w2 =>
      rintro n'' vs' h tk ⟨a, o, rfl, rfl, lo, hEo⟩ ht H
      exact (plain_spec (s := C.st h tk) (B.inner H) (R'.le (by omega)) ht (by omega) (fun nd hnd => (hall nd hnd).1) (hTr (fun q hq => .tail _ hq) h H) ⟨o, (H.N _ (.head _)).1, lo, hEo⟩).post ht H fun h' r' ⟨t, e⟩ _ => ⟨⟨_, rfl⟩, t, e⟩
    rintro n2 ⟨q2, rfl⟩
    have hrl := repliesL_len (treeL cells 0) fun nd hnd => (hall nd hnd).1
    refine .ifHeard B Z (R'.le (by omega)) (told := repliesL (treeL cells 0) ++ lastL) (tree := treeL cells 0) (T := T0) rfl
      (B.pure1 (P1 := Is (.ref T0)) rfl (ns_replies _) (kp_replies _) (.name (B.loc rfl) hM.tree rfl) fun v h tk hv ht H => by
        subst hv
        exact (replies_spec (s := C.st h tk) (B.inner H) (R'.le (by omega)) ht (by omega) (fun nd hnd => (hall nd hnd).1) (hTr (fun q hq => .tail _ hq) h H)).mono fun h' r' ⟨t, e⟩ => ⟨t, e⟩)
      (by rw [List.length_append]; have : lastL.length = 14 := rfl; omega) (hM2 cells hcl6) (by omega) rfl hM.tree (fun h g H => hTr (fun q hq => .tail _ hq) h H) (fun nd hnd => (hall nd hnd).2.1) ?_
    intro g' T' Z' B' h tk ht H
    refine wpAny_execs_cons (wpAny_Return_some (wpAny_Compare1 ?_ (by rfl)))
    refine Call_ (pb (B'.topName (B'.glb rfl) (ns_seen _) h tk ht H) fun _ h tk ht H ef => ?_)
    subst ef
    refine callWith_K (h₀ := g') B'.cx.kin (kp_seen _) ?_ rfl rfl
    refine args_cons (pb (Ev.name (C := C.on g') (P := Is (.ref L0)) (B'.loc rfl) hM.lines rfl h tk ht H) fun v1 h tk ht H e1 => args_cons (pb (Ev.name (C := C.on g') (B'.loc rfl) hM.size hsv h tk ht H) fun v2 h tk ht H hv2 => args_nil ⟨B'.cx.kin.keeps H.F.keep, ?_⟩) rfl) rfl
    subst e1
    refine (seen_spec (s := C.st h tk) (lines := xs) (B'.inner H) (R'.le (by omega)) ht hv2 (by omega) (News.isList H.N (.tail _ (by rw [hcur]; exact .tail _ (.head _)))) hLs (by rw [← hLo.length]; omega) (lines_len hLo fun nd hnd => (hall nd hnd).1)).useT ht ?_
    rintro h' tk' rr ht' hk' ⟨as, hrd⟩
    have hL' := B'.loc (x := "due") rfl
    refine ld (H.F.after hk') hM.due ?_ hL'.1 hL'.2.1 hL'.2.2
    have N' := News.keep H.N hk'
    obtain ⟨as2, hr2⟩ := hDu.reads (h := h') fun q hq => (N' q (.tail _ (hres q hq))).1
    rw [hM3 r cells (2 + r / 6480 % 7) xs hcl6 (by omega) hLo] at hrd
    have hok : ∀ a ∈ (treeL cells 0).map (dueOf r (2 + r / 6480 % 7)), PyData.strOk (S a.2.1) = true := fun a ha => by
      obtain ⟨nd, hnd, rfl⟩ := List.mem_map.mp ha
      exact (hall nd hnd).2.2
    refine eq_dataH (s := C.st h' tk') hrd (reads_list_at (N' _ (.tail _ (by rw [hcur]; exact .tail _ (.tail _ (.head _))))).1 rfl rfl hr2) (seenD_shaped _ hok) (seenD_shaped _ hok) ?_ ?_
    · have := R.u
      show C.A.units + 3 + 64 < _
      omega
    · rw [seenD_eqv]
      exact ret _ g' h' _ _ tk' T' ⟨H.F.after hk', N', H.D⟩ rfl
end Mine
end
-- MMath1
section
open PySem
set_option maxRecDepth 100000
set_option linter.unusedVariables false
namespace Mine
/-! trees as rows of depths and signs -/
noncomputable def comingF (f : Nat) : List (Nat × Nat) → Nat
  | [] => f
  | (d, _) :: _ => d
noncomputable def closeF (cl : Nat → List Nat) (d i : Nat) : List Nat := (List.range i).flatMap fun i => cl (d - i)
noncomputable def emit (o : Nat → Nat → List Nat) (cl : Nat → List Nat) (f : Nat) : List (Nat × Nat) → List Nat
  | [] => []
  | (d, c) :: r => o d c ++ (closeF cl d (d + 1 - comingF f r) ++ emit o cl f r)
theorem closeF_succ (cl : Nat → List Nat) (d i : Nat) : closeF cl d (i + 1) = closeF cl d i ++ cl (d - i) := by
  simp [closeF, List.range_succ]
theorem closeF_zero (cl : Nat → List Nat) (d : Nat) : closeF cl d 0 = [] := rfl
/-- each goes on from the one ahead of it -/
noncomputable def St : Nat → List (Nat × Nat) → Prop
  | _, [] => True
  | p, (d, _) :: r => d ≤ p ∧ St (d + 1) r
noncomputable def Low (D : Nat) (t : List (Nat × Nat)) : Prop := ∀ nd ∈ t, D ≤ nd.1
theorem St.treeL : ∀ (l : List Nat) (p : Nat), St p (treeL l p)
  | [], _ => trivial
  | c :: r, p => by
    have := Nat.mod_lt c (y := min (p + 1) 4) (by omega)
    exact ⟨by omega, St.treeL r _⟩
theorem St.prefix : ∀ {a b : List (Nat × Nat)} {p : Nat}, St p (a ++ b) → St p a
  | [], _, _, _ => trivial
  | (d, c) :: r, b, p, h => ⟨h.1, St.prefix (a := r) h.2⟩
theorem St.suffix : ∀ {a : List (Nat × Nat)} {x : Nat × Nat} {b : List (Nat × Nat)} {p D : Nat}, St p (a ++ x :: b) → x.1 ≤ D → St D (x :: b)
  | [], _, _, _, _, h, hx => ⟨hx, h.2⟩
  | (d, c) :: r, x, b, p, D, h, hx => St.suffix (a := r) h.2 hx
/-- a node, all beneath it, the rest -/
theorem emit_split (o : Nat → Nat → List Nat) (cl : Nat → List Nat) (D : Nat) : ∀ (ch rs : List (Nat × Nat)), ch ≠ [] → Low (D + 1) ch → (∀ x r, rs = x :: r → x.1 = D) → emit o cl D (ch ++ rs) = emit o cl (D + 1) ch ++ (cl D ++ emit o cl D rs)
  | [], _, h, _, _ => absurd rfl h
  | [(d, c)], rs, _, hl, hr => by
    have hd : D + 1 ≤ d := hl (d, c) (.head _)
    have e1 : comingF D rs = D := by
      cases rs with
      | nil => rfl
      | cons x r => exact hr x r rfl
    show o d c ++ (closeF cl d (d + 1 - comingF D rs) ++ emit o cl D rs) = (o d c ++ (closeF cl d (d + 1 - (D + 1)) ++ [])) ++ _
    rw [e1, show d + 1 - D = (d + 1 - (D + 1)) + 1 by omega, closeF_succ, show d - (d + 1 - (D + 1)) = D by omega]
    simp only [List.append_assoc, List.nil_append]
  | (d, c) :: (d2, c2) :: r, rs, _, hl, hr => by
    have ih := emit_split o cl D ((d2, c2) :: r) rs (by simp) (fun nd h => hl nd (.tail _ h)) hr
    show o d c ++ (closeF cl d (d + 1 - d2) ++ emit o cl D ((d2, c2) :: r ++ rs)) = (o d c ++ (closeF cl d (d + 1 - d2) ++ emit o cl (D + 1) ((d2, c2) :: r))) ++ _
    rw [ih]
    simp only [List.append_assoc]
theorem emit_node (o : Nat → Nat → List Nat) (cl : Nat → List Nat) (D c : Nat) (ch rs : List (Nat × Nat)) (hs : St (D + 1) ch) (hl : Low (D + 1) ch) (hr : ∀ x r, rs = x :: r → x.1 = D) :
    emit o cl D ((D, c) :: (ch ++ rs)) = o D c ++ (emit o cl (D + 1) ch ++ (cl D ++ emit o cl D rs)) := by
  cases ch with
  | nil =>
    have e1 : comingF D rs = D := by
      cases rs with
      | nil => rfl
      | cons x r => exact hr x r rfl
    show o D c ++ (closeF cl D (D + 1 - comingF D rs) ++ emit o cl D rs) = o D c ++ ([] ++ (cl D ++ emit o cl D rs))
    rw [e1, show D + 1 - D = 0 + 1 by omega, closeF_succ, closeF_zero, Nat.sub_zero]; rfl
  | cons x r =>
    have hx : x.1 = D + 1 := Nat.le_antisymm hs.1 (hl x (.head _))
    have h := emit_split o cl D (x :: r) rs (by simp) hl hr
    show o D c ++ (closeF cl D (D + 1 - x.1) ++ emit o cl D (x :: r ++ rs)) = _
    rw [hx, Nat.sub_self, closeF_zero, h]; rfl
/-- told once more -/
theorem emit_again (φ : List Nat → List Nat) (h0 : φ [] = []) (ha : ∀ a b, φ (a ++ b) = φ a ++ φ b) (o : Nat → Nat → Nat → List Nat) (cl : Nat → Nat → List Nat) (e f : Nat) (ho : ∀ d c, e + 1 ≤ d → φ (o (e + 1) d c) = o e d c) (hc : ∀ j, e + 1 ≤ j → φ (cl (e + 1) j) = cl e j) (hf : e + 1 ≤ f) :
    ∀ t : List (Nat × Nat), Low (e + 1) t → φ (emit (o (e + 1)) (cl (e + 1)) f t) = emit (o e) (cl e) f t
  | [], _ => h0
  | (d, c) :: r, hl => by
    have hd : e + 1 ≤ d := hl (d, c) (.head _)
    have hcm : e + 1 ≤ comingF f r := by
      cases r with
      | nil => exact hf
      | cons x q => exact hl x (.tail _ (.head _))
    have hcl : ∀ i, i ≤ d + 1 - comingF f r → φ (closeF (cl (e + 1)) d i) = closeF (cl e) d i := by
      intro i
      induction i with
      | zero => intro _; rw [closeF_zero, closeF_zero, h0]
      | succ i ih => intro hi; rw [closeF_succ, closeF_succ, ha, ih (by omega), hc _ (by omega)]
    show φ (o (e + 1) d c ++ (closeF (cl (e + 1)) d (d + 1 - comingF f r) ++ emit (o (e + 1)) (cl (e + 1)) f r)) = _
    rw [ha, ha, ho d c hd, hcl _ (Nat.le_refl _), emit_again φ h0 ha o cl e f ho hc hf r fun nd h => hl nd (.tail _ h)]; rfl
theorem cut_low {D : Nat} : ∀ (rest : List (Nat × Nat)), Low D rest → St (D + 1) rest → rest = (rest.takeWhile fun n => decide (D < n.1)) ++ (rest.dropWhile fun n => decide (D < n.1)) ∧ Low (D + 1) (rest.takeWhile fun n => decide (D < n.1)) ∧ St (D + 1) (rest.takeWhile fun n => decide (D < n.1)) ∧
    Low D (rest.dropWhile fun n => decide (D < n.1)) ∧ St D (rest.dropWhile fun n => decide (D < n.1)) ∧ (∀ x r, (rest.dropWhile fun n => decide (D < n.1)) = x :: r → x.1 = D) := by
  intro rest hl hs
  have e : rest = (rest.takeWhile fun n => decide (D < n.1)) ++ (rest.dropWhile fun n => decide (D < n.1)) := List.takeWhile_append_dropWhile.symm
  have htk : ∀ l : List (Nat × Nat), Low (D + 1) (l.takeWhile fun n => decide (D < n.1)) := by
    intro l
    induction l with
    | nil => exact fun _ h => nomatch h
    | cons a r ih =>
      intro nd h
      rw [List.takeWhile_cons] at h
      split at h
      · rename_i hq
        rcases List.mem_cons.mp h with rfl | h
        · exact of_decide_eq_true hq
        · exact ih nd h
      · cases h
  have hdr : ∀ (l : List (Nat × Nat)) x r, (l.dropWhile fun n => decide (D < n.1)) = x :: r → ¬ D < x.1 := by
    intro l
    induction l with
    | nil => intro x r h; cases h
    | cons a q ih =>
      intro x r h
      rw [List.dropWhile_cons] at h
      split at h
      · exact ih x r h
      · rename_i hq
        cases h
        exact fun hlt => hq (decide_eq_true hlt)
  have hlow : Low D (rest.dropWhile fun n => decide (D < n.1)) := fun nd h => hl nd (by rw [e]; exact List.mem_append_right _ h)
  have hhead : ∀ x r, (rest.dropWhile fun n => decide (D < n.1)) = x :: r → x.1 = D := fun x r h => by
    have h1 := hdr rest x r h
    have h2 := hlow x (by rw [h]; exact .head _)
    omega
  refine ⟨e, htk rest, ?_, hlow, ?_, hhead⟩
  · have := hs
    rw [e] at this
    exact this.prefix
  · cases hq : (rest.dropWhile fun n => decide (D < n.1)) with
    | nil => trivial
    | cons x r =>
      have h2 := hs
      rw [e, hq] at h2
      exact St.suffix h2 (Nat.le_of_eq (hhead x r hq))
end Mine
end
-- MMath2
section
open PySem
set_option maxRecDepth 100000
set_option linter.unusedVariables false
namespace Mine
/-! text within text -/
theorem esc_app (hand : Nat) (a b : List Nat) : esc hand (a ++ b) = esc hand a ++ esc hand b := List.flatMap_append
theorem esc_cons (hand c : Nat) (a : List Nat) : esc hand (c :: a) = em hand c ++ esc hand a := List.flatMap_cons
theorem spelled1 (hand c : Nat) : spelledL hand c 1 = em hand c := by
  rw [spelledL, if_neg (by decide), em_endo]
  cases endo hand c <;> rfl
theorem em_amp (hand : Nat) : em hand 38 = [38, 97, 109, 112, 59] := by
  unfold em
  split <;> rfl
noncomputable def quiet1 (c : Nat) : Bool := c != 38 && c != 60 && c != 62 && c != 34 && c != 13 && c != 10 && c != 9
theorem em_quiet (hand c : Nat) (h : quiet1 c = true) : em hand c = [c] := by
  simp only [quiet1, Bool.and_eq_true, bne_iff_ne, ne_eq] at h
  unfold em
  split <;> simp [h]
theorem esc_quiet (hand : Nat) : ∀ l : List Nat, (l.all quiet1) = true → esc hand l = l
  | [], _ => rfl
  | c :: r, h => by
    rw [List.all_cons, Bool.and_eq_true] at h
    rw [esc_cons, em_quiet hand c h.1, esc_quiet hand r h.2]; rfl
theorem endo_quiet (hand c : Nat) {l : List Nat} (h : endo hand c = some l) : (l.all quiet1) = true := by
  unfold endo at h
  split at h <;> (repeat' split at h) <;> first | (cases h; done) | (cases h; decide)
theorem amps_quiet (k : Nat) : ((List.replicate k [97, 109, 112, 59]).flatten.all quiet1) = true := by
  induction k with
  | zero => rfl
  | succ k ih => rw [List.replicate_succ, List.flatten_cons, List.all_append, ih]; rfl
theorem esc_spelled (hand c k : Nat) : esc hand (spelledL hand c k) = spelledL hand c (k + 1) := by
  cases k with
  | zero =>
    rw [spelled1, spelledL, if_pos rfl, esc_cons]
    show em hand c ++ [] = _
    rw [List.append_nil]
  | succ k =>
    rw [spelledL, if_neg (Nat.succ_ne_zero k), spelledL, if_neg (Nat.succ_ne_zero _)]
    cases he : endo hand c with
    | none =>
      have : em hand c = [c] := by rw [em_endo, he]
      show esc hand [c] = [c]
      rw [esc_cons, this]; rfl
    | some l =>
      show esc hand (38 :: ((List.replicate (k + 1 - 1) [97, 109, 112, 59]).flatten ++ l)) = 38 :: ((List.replicate (k + 1 + 1 - 1) [97, 109, 112, 59]).flatten ++ l)
      rw [esc_cons, em_amp, esc_app, esc_quiet hand _ (amps_quiet _), esc_quiet hand l (endo_quiet hand c he), Nat.add_sub_cancel, Nat.add_sub_cancel, List.replicate_succ, List.flatten_cons]
      rfl
noncomputable def oP (hand e d c : Nat) : List Nat := spelledL hand 60 (d - e) ++ spelledL hand c (d + 1 - e)
noncomputable def cP (hand e j : Nat) : List Nat := spelledL hand 62 (j - e)
theorem plain_emit (hand : Nat) : ∀ t : List (Nat × Nat), plainL hand t = emit (oP hand 0) (cP hand 0) 0 t
  | [] => rfl
  | (d, c) :: r => by
    have e : coming r = comingF 0 r := by cases r <;> rfl
    rw [plainL, plain_emit hand r, emit, ← e]
    show _ = (spelledL hand 60 d ++ spelledL hand c (d + 1)) ++ _
    rw [List.append_assoc]; rfl
theorem within_skip (hand D : Nat) : ∀ (a b : List (Nat × Nat)), Low (D + 1) a → within hand (a ++ b) D = within hand b D
  | [], _, _ => rfl
  | (d, c) :: r, b, h => by
    have hd : D + 1 ≤ d := h (d, c) (.head _)
    rw [List.cons_append, within, if_neg (by omega), List.nil_append]
    exact within_skip hand D r b fun nd hn => h nd (.tail _ hn)
theorem within_emit (hand : Nat) : ∀ (n : Nat) (t : List (Nat × Nat)) (D : Nat), t.length ≤ n → Low D t → St D t → within hand t D = emit (oP hand D) (cP hand D) D t := by
  intro n
  induction n with
  | zero =>
    intro t D h _ _
    rw [List.length_eq_zero_iff.mp (Nat.le_zero.mp h), within]; rfl
  | succ n ih =>
    intro t D h hl hs
    match t with
    | [] => rw [within]; rfl
    | (d, c) :: rest =>
      have hd : d = D := Nat.le_antisymm hs.1 (hl (d, c) (.head _))
      subst hd
      obtain ⟨e, h1, h2, h3, h4, h5⟩ := cut_low rest (fun nd hn => hl nd (.tail _ hn)) hs.2
      have hlen := congrArg List.length e
      rw [List.length_append] at hlen
      rw [List.length_cons] at h
      rw [within, if_pos rfl]
      generalize hch : (rest.takeWhile fun n => decide (d < n.1)) = ch at *
      generalize hrs : (rest.dropWhile fun n => decide (d < n.1)) = rs at *
      subst e
      rw [within_skip hand d ch rs h1, ih rs d (by omega) h3 h4, ih ch (d + 1) (by omega) h1 h2, emit_node _ _ d c ch rs h2 h1 h5, esc_cons,
        emit_again (esc hand) rfl (esc_app hand) (oP hand) (cP hand) d (d + 1) (fun x y hx => by
          rw [oP, oP, esc_app, esc_spelled, esc_spelled, show x - (d + 1) + 1 = x - d by omega, show x + 1 - (d + 1) + 1 = x + 1 - d by omega]) (fun j hj => by
          rw [cP, cP, esc_spelled, show j - (d + 1) + 1 = j - d by omega]) (Nat.le_refl _) ch h1]
      show 60 :: (em hand c ++ _) ++ [62] ++ _ = (spelledL hand 60 (d - d) ++ spelledL hand c (d + 1 - d)) ++ (_ ++ (spelledL hand 62 (d - d) ++ _))
      rw [Nat.sub_self, Nat.add_sub_cancel_left, spelled1]
      show _ = ([60] ++ _) ++ (_ ++ ([62] ++ _))
      simp only [List.cons_append, List.append_assoc, List.nil_append]
theorem hM1 (cells : List Nat) (hand : Nat) : within hand (treeL cells 0) 0 = plainL hand (treeL cells 0) := by
  rw [plain_emit, within_emit hand _ _ 0 (Nat.le_refl _) (fun _ _ => Nat.zero_le _) (St.treeL cells 0)]

/-! replies within replies -/
noncomputable def dbl (l : List Nat) : List Nat := l.flatMap fun c => if c = 34 then [34, 34] else [c]
theorem dbl_app (a b : List Nat) : dbl (a ++ b) = dbl a ++ dbl b := List.flatMap_append
theorem dbl_cons (c : Nat) (a : List Nat) : dbl (c :: a) = (if c = 34 then [34, 34] else [c]) ++ dbl a := List.flatMap_cons
theorem dbl_quotes : ∀ k : Nat, dbl (quotes k) = quotes (2 * k)
  | 0 => rfl
  | k + 1 => by
    rw [quotes, List.replicate_succ, dbl_cons, if_pos rfl]
    have := dbl_quotes k
    rw [quotes] at this
    rw [this, show 2 * (k + 1) = 2 * k + 1 + 1 by omega, quotes, quotes, List.replicate_succ, List.replicate_succ]; rfl
theorem dbl_len (l : List Nat) : (dbl l).length = l.length + l.count 34 := by
  induction l with
  | nil => rfl
  | cons c r ih =>
    rw [dbl_cons, List.length_append, ih, List.length_cons, List.count_cons]
    by_cases h : c = 34
    · subst h
      rw [if_pos rfl]
      simp only [List.length_cons, List.length_nil, beq_self_eq_true, if_true]
      omega
    · rw [if_neg h, if_neg (by simpa using h)]
      simp only [List.length_cons, List.length_nil]
      omega
theorem unq_dbl : ∀ (l y : List Nat), y[0]? ≠ some 34 → unq (dbl l ++ 34 :: y) = l
  | [], y, h => by
    show unq (34 :: y) = []
    exact unq_end rfl (by simpa using h)
  | c :: r, y, h => by
    have ih := unq_dbl r y h
    rw [dbl_cons]
    by_cases hc : c = 34
    · subst hc
      rw [if_pos rfl]
      show unq (34 :: 34 :: (dbl r ++ 34 :: y)) = _
      rw [unq, if_pos rfl, if_pos rfl, ih]
    · rw [if_neg hc]
      show unq (c :: (dbl r ++ 34 :: y)) = _
      rw [unq_other rfl hc]
      show c :: unq (dbl r ++ 34 :: y) = _
      rw [ih]
noncomputable def saidE (e d c : Nat) : List Nat := if c = 34 then quotes (2 ^ (d + 1 - e)) else [c]
noncomputable def oR (e d c : Nat) : List Nat := [50, 53, 55, 32] ++ (quotes (2 ^ (d - e)) ++ saidE e d c)
noncomputable def cR (e j : Nat) : List Nat := quotes (2 ^ (j - e))
theorem replies_emit : ∀ t : List (Nat × Nat), repliesL t = emit (oR 0) (cR 0) 0 t
  | [] => rfl
  | (d, c) :: r => by
    have e : coming r = comingF 0 r := by cases r <;> rfl
    rw [repliesL, replies_emit r, emit, ← e]
    show _ = ([50, 53, 55, 32] ++ (quotes (2 ^ d) ++ saidQ d c)) ++ _
    simp only [List.append_assoc]; rfl
theorem emit_head (D : Nat) : ∀ (t : List (Nat × Nat)) (y : List Nat), y[0]? ≠ some 34 → (emit (oR D) (cR D) D t ++ y)[0]? ≠ some 34
  | [], _, h => h
  | (d, c) :: r, _, _ => by
    intro h
    have : some 50 = some 34 := h
    cases this
theorem hears_emit : ∀ (n : Nat) (t : List (Nat × Nat)) (D k : Nat) (y : List Nat), t.length ≤ n → Low D t → St D t → (∀ nd ∈ t, nd.1 ≤ 3) → 4 ≤ k + D → parseL y = none → y[0]? ≠ some 34 → Hears (emit (oR D) (cR D) D t ++ y) D t k := by
  intro n
  induction n with
  | zero =>
    intro t D k y h _ _ _ _ hy _
    rw [List.length_eq_zero_iff.mp (Nat.le_zero.mp h)]
    exact .stop hy
  | succ n ih =>
    intro t D k y h hl hs h3 hk hy hq
    match t with
    | [] => exact .stop hy
    | (d, c) :: rest =>
      have hd : d = D := Nat.le_antisymm hs.1 (hl (d, c) (.head _))
      subst hd
      have hd3 : d ≤ 3 := h3 (d, c) (.head _)
      obtain ⟨k, rfl⟩ : ∃ j, k = j + 1 := ⟨k - 1, by omega⟩
      obtain ⟨e, h1, h2, h4, h5, h6⟩ := cut_low rest (fun nd hn => hl nd (.tail _ hn)) hs.2
      have hlen := congrArg List.length e
      rw [List.length_append] at hlen
      rw [List.length_cons] at h
      generalize hch : (rest.takeWhile fun n => decide (d < n.1)) = ch at *
      generalize hrs : (rest.dropWhile fun n => decide (d < n.1)) = rs at *
      subst e
      have hin := ih ch (d + 1) k [] (by omega) h1 h2 (fun nd hn => h3 nd (.tail _ (List.mem_append_left _ hn))) (by omega) (by rfl) (by simp)
      have hout := ih rs d (k + 1) y (by omega) h4 h5 (fun nd hn => h3 nd (.tail _ (List.mem_append_right _ hn))) hk hy hq
      have hhd := emit_head d rs y hq
      rw [List.append_nil] at hin
      have hag := emit_again dbl rfl dbl_app oR cR d (d + 1) (fun x z hx => by
          have p1 : 2 ^ (x - d) = 2 * 2 ^ (x - (d + 1)) := by rw [show x - d = (x - (d + 1)) + 1 by omega, Nat.pow_succ]; omega
          have p2 : 2 ^ (x + 1 - d) = 2 * 2 ^ (x + 1 - (d + 1)) := by rw [show x + 1 - d = (x + 1 - (d + 1)) + 1 by omega, Nat.pow_succ]; omega
          rw [oR, oR, dbl_app, dbl_app, dbl_quotes, p1]
          have : dbl (saidE (d + 1) x z) = saidE d x z := by
            unfold saidE
            split
            · rw [dbl_quotes, p2]
            · rename_i hz
              rw [dbl_cons, if_neg hz]; rfl
          rw [this]; rfl) (fun j hj => by
          rw [cR, cR, dbl_quotes]
          have : 2 ^ (j - d) = 2 * 2 ^ (j - (d + 1)) := by rw [show j - d = (j - (d + 1)) + 1 by omega, Nat.pow_succ]; omega
          rw [this]) (Nat.le_refl _) ch h1
      have hcell : saidE d d c = dbl [c] := by
        unfold saidE
        rw [dbl_cons, Nat.add_sub_cancel_left]
        split <;> rfl
      generalize hz : emit (oR (d + 1)) (cR (d + 1)) (d + 1) ch = z at *
      have etold : emit (oR d) (cR d) d ((d, c) :: (ch ++ rs)) ++ y = [50, 53, 55, 32, 34] ++ (dbl (c :: z) ++ 34 :: (emit (oR d) (cR d) d rs ++ y)) := by
        rw [emit_node _ _ d c ch rs h2 h1 h6, ← hag, oR, cR, Nat.sub_self, hcell, show (c :: z) = [c] ++ z from rfl, dbl_app]
        show _ = [50, 53, 55, 32] ++ ([34] ++ _)
        show ([50, 53, 55, 32] ++ ([34] ++ dbl [c]) ++ (dbl z ++ ([34] ++ _))) ++ y = _
        simp only [List.append_assoc, List.cons_append, List.nil_append]
      rw [etold]
      refine .step (c := c) (rest := z) ?_ hin ?_
      · rw [parseL, if_pos (by rfl), if_pos (by rfl)]
        show some (unq (dbl (c :: z) ++ 34 :: (emit (oR d) (cR d) d rs ++ y))) = _
        rw [unq_dbl _ _ hhd]
      · have hdl := dbl_len (c :: z)
        have e2 : ([50, 53, 55, 32, 34] ++ (dbl (c :: z) ++ 34 :: (emit (oR d) (cR d) d rs ++ y))).drop (6 + (c :: z).length + (c :: z).count 34) = emit (oR d) (cR d) d rs ++ y := by
          have e3 : [50, 53, 55, 32, 34] ++ (dbl (c :: z) ++ 34 :: (emit (oR d) (cR d) d rs ++ y)) = ([50, 53, 55, 32, 34] ++ dbl (c :: z) ++ [34]) ++ (emit (oR d) (cR d) d rs ++ y) := by simp
          rw [e3]
          exact List.drop_left' (by rw [List.length_append, List.length_append, hdl]; simp only [List.length_cons, List.length_nil]; omega)
        rw [e2]
        exact hout
theorem treeL_le3 : ∀ (l : List Nat) (p : Nat), ∀ nd ∈ treeL l p, nd.1 ≤ 3
  | [], _, _, h => nomatch h
  | c :: r, p, nd, h => by
    rw [treeL] at h
    rcases List.mem_cons.mp h with rfl | h
    · have := Nat.mod_lt c (y := min (p + 1) 4) (by omega)
      show c % min (p + 1) 4 ≤ 3
      omega
    · exact treeL_le3 r _ nd h
theorem hM2 (cells : List Nat) : Hears (repliesL (treeL cells 0) ++ lastL) 0 (treeL cells 0) 8 := by
  rw [replies_emit]
  exact hears_emit _ _ 0 8 lastL (Nat.le_refl _) (fun _ _ => Nat.zero_le _) (St.treeL cells 0) (treeL_le3 cells 0) (by decide) (by rfl) (by decide)
end Mine
end
-- MMath3
section
set_option maxRecDepth 100000
set_option linter.unusedVariables false
namespace Mine
/-! the page of lines -/
/-- the count behind one more run -/
theorem getD_bump (c : List Int) (b i : Nat) : (bump c b).getD i 0 = c.getD i 0 + (if i = b then 1 else 0) := by
  have hg : ∀ i, (grow c b).getD i 0 = c.getD i 0 := by
    intro i
    unfold grow
    split
    · simp only [List.getD_eq_getElem?_getD]
      by_cases hi : i < c.length
      · rw [List.getElem?_append_left hi]
      · rw [List.getElem?_append_right (by omega), List.getElem?_replicate, List.getElem?_eq_none (l := c) (by omega)]
        split <;> rfl
    · rfl
  have hb := grow_lt c b
  have h1 := hg i
  have h2 := hg b
  unfold bump
  simp only [List.getD_eq_getElem?_getD, List.getElem?_set] at h1 h2 ⊢
  by_cases hi : i = b
  · subst hi
    rw [if_pos rfl, if_pos rfl, if_pos hb, h2]; rfl
  · rw [if_neg (fun h => hi h.symm), if_neg hi, h1, Int.add_zero]
theorem len_bump (c : List Int) (b : Nat) : (bump c b).length = max c.length (b + 1) := by
  unfold bump grow
  rw [List.length_set]
  split
  · rw [List.length_append, List.length_replicate]; omega
  · omega
theorem ext_getD {a b : List Int} (hl : a.length = b.length) (h : ∀ i, a.getD i 0 = b.getD i 0) : a = b := by
  refine List.ext_getElem hl fun i h1 h2 => ?_
  have := h i
  rw [List.getD_eq_getElem?_getD, List.getD_eq_getElem?_getD, List.getElem?_eq_getElem h1, List.getElem?_eq_getElem h2] at this
  exact this
theorem bump_comm (c : List Int) (a b : Nat) : bump (bump c a) b = bump (bump c b) a := by
  refine ext_getD (by simp only [len_bump]; omega) fun i => ?_
  simp only [getD_bump]; omega
/-- a sum over a count -/
theorem ilW_more (ts : Nat) (c : List Int) : ∀ k, ilW ts c (c.length - ts + k) = ilW ts c (c.length - ts)
  | 0 => rfl
  | k + 1 => by
    rw [← Nat.add_assoc, ilW, ilW_more ts c k, List.getD_eq_getElem?_getD, List.getElem?_eq_none (by omega)]
    simp
theorem ilW_far (ts : Nat) (c : List Int) (N : Nat) (h : c.length - ts ≤ N) : ilW ts c N = ilW ts c (c.length - ts) := by
  obtain ⟨k, rfl⟩ : ∃ k, N = c.length - ts + k := ⟨N - (c.length - ts), by omega⟩
  exact ilW_more ts c k
theorem ilW_one (ts : Nat) {c c' : List Int} {b : Nat} (h : ∀ i, c'.getD i 0 = c.getD i 0 + (if i = b then 1 else 0)) : ∀ N, ilW ts c' N = ilW ts c N + (if ts ≤ b ∧ b < ts + N then ((b / ts : Nat) : Int) else 0)
  | 0 => by rw [ilW, ilW, if_neg (by omega)]; rfl
  | N + 1 => by
    rw [ilW, ilW, ilW_one ts h N, h]
    by_cases h1 : ts + N = b
    · rw [if_pos h1, if_neg (by omega), if_pos (by omega), h1, Int.mul_add, Int.mul_one]; omega
    · rw [if_neg h1, Int.add_zero]
      by_cases h2 : ts ≤ b ∧ b < ts + N
      · rw [if_pos h2, if_pos (by omega)]; omega
      · rw [if_neg h2, if_neg (by omega), Int.add_zero, Int.add_zero]
noncomputable def il (ts : Nat) (c : List Int) : Int := ilW ts c (c.length - ts)
theorem il_bump (ts : Nat) (h0 : 0 < ts) (c : List Int) (b : Nat) : il ts (bump c b) = il ts c + ((b / ts : Nat) : Int) := by
  unfold il
  have hl := len_bump c b
  rw [ilW_one ts (getD_bump c b), ilW_far ts c _ (by omega)]
  by_cases h : ts ≤ b
  · rw [if_pos (by omega)]
  · rw [if_neg (by omega), Nat.div_eq_of_lt (by omega)]; rfl
noncomputable def wt (c : List Int) : Int := ilW 1 (0 :: c) c.length
theorem wt_bump (c : List Int) (b : Nat) : wt (bump c b) = wt c + (b : Int) + 1 := by
  unfold wt
  have hl := len_bump c b
  have h : ∀ i, (0 :: bump c b).getD i 0 = (0 :: c).getD i 0 + (if i = b + 1 then 1 else 0) := by
    intro i
    cases i with
    | zero => rfl
    | succ i =>
      have := getD_bump c b i
      simp only [List.getD_cons_succ] at this ⊢
      rw [this]
      by_cases hi : i = b
      · rw [if_pos hi, if_pos (by omega)]
      · rw [if_neg hi, if_neg (by omega)]
  rw [ilW_one 1 h, ilW_far 1 (0 :: c) _ (by rw [List.length_cons]; omega), if_pos (by omega), List.length_cons, Nat.add_sub_cancel, Nat.div_one]
  omega
noncomputable def blank (x : List Nat) : Prop := ∀ c ∈ x, c = 32 ∨ c = 9
/-- what a walk over blanks tells -/
theorem scan_app : ∀ (x y : List Nat) (z : WS), blank x → scan (x ++ y) z = scan y (scan x z)
  | [], _, _, _ => rfl
  | c :: r, y, z, h => by
    have hr : blank r := fun d hd => h d (.tail _ hd)
    rw [List.cons_append, scan, scan]
    by_cases h1 : c = 32
    · rw [if_pos h1, if_pos h1]; exact scan_app r y _ hr
    · rw [if_neg h1, if_neg h1, if_pos ((h c (.head _)).resolve_left h1), if_pos ((h c (.head _)).resolve_left h1)]; exact scan_app r y _ hr
theorem scan_n : ∀ (x : List Nat) (z : WS), blank x → (scan x z).n = z.n + x.length
  | [], _, _ => rfl
  | c :: r, z, h => by
    have hr : blank r := fun d hd => h d (.tail _ hd)
    rw [scan, List.length_cons]
    by_cases h1 : c = 32
    · rw [if_pos h1, scan_n r _ hr]; show z.n + 1 + _ = _; omega
    · rw [if_neg h1, if_pos ((h c (.head _)).resolve_left h1), scan_n r _ hr]; show z.n + 1 + _ = _; omega
theorem scan_nt : ∀ (x : List Nat) (z : WS), z.nt ≤ (scan x z).nt
  | [], _ => Nat.le_refl _
  | c :: r, z => by
    rw [scan]
    split
    · exact scan_nt r ⟨z.count, z.b + 1, z.n + 1, z.nt⟩
    · split
      · exact Nat.le_trans (Nat.le_succ z.nt) (scan_nt r ⟨bump z.count z.b, 0, z.n + 1, z.nt + 1⟩)
      · exact Nat.le_refl _
theorem scan_wt : ∀ (x : List Nat) (z : WS), (z.n : Int) = wt z.count + z.b → ((scan x z).n : Int) = wt (scan x z).count + (scan x z).b
  | [], _, h => h
  | c :: r, z, h => by
    rw [scan]
    split
    · refine scan_wt r _ ?_
      show ((z.n + 1 : Nat) : Int) = wt z.count + ((z.b + 1 : Nat) : Int)
      omega
    · split
      · refine scan_wt r _ ?_
        show ((z.n + 1 : Nat) : Int) = wt (bump z.count z.b) + ((0 : Nat) : Int)
        rw [wt_bump]; omega
      · exact h
/-- the column that a Whitespace tells is the column to which the walk comes -/
theorem scan_level (ts : Nat) (h0 : 0 < ts) : ∀ (x : List Nat) (z : WS) (j col : Nat), blank x → il ts z.count = (j : Int) → col = z.b + ts * (j + z.nt) → levelW (scan x z) ts = ((x.foldl (columnStep ts) col : Nat) : Int)
  | [], z, j, col, _, h1, h2 => by
    show (z.b : Int) + (ts : Int) * (il ts z.count + (z.nt : Int)) = (col : Int)
    rw [h1, h2]
    simp only [Int.natCast_add, Int.natCast_mul]
  | c :: r, z, j, col, hb, h1, h2 => by
    have hr : blank r := fun d hd => hb d (.tail _ hd)
    rw [scan, List.foldl_cons, columnStep]
    by_cases hc : c = 32
    · rw [if_pos hc, if_pos hc]
      exact scan_level ts h0 r _ j _ hr h1 (by show col + 1 = z.b + 1 + ts * (j + z.nt); omega)
    · rw [if_neg hc, if_neg hc, if_pos ((hb c (.head _)).resolve_left hc)]
      refine scan_level ts h0 r _ (j + z.b / ts) _ hr (by show il ts (bump z.count z.b) = _; rw [il_bump ts h0, h1]; omega) ?_
      show (col / ts + 1) * ts = 0 + ts * (j + z.b / ts + (z.nt + 1))
      rw [h2, Nat.add_mul_div_left _ _ h0, Nat.zero_add, Nat.mul_comm]
      congr 1; omega
theorem level_column (ts : Nat) (h0 : 0 < ts) (x : List Nat) (h : blank x) : levelW (scan0 x) ts = ((columnL ts x : Nat) : Int) :=
  scan_level ts h0 x _ 0 0 h (by show ilW ts [] (0 - ts) = 0; rw [Nat.zero_sub]; rfl) (by simp)
theorem columnStep_lt (ts : Nat) (h0 : 0 < ts) (col c : Nat) : col < columnStep ts col c := by
  unfold columnStep
  split
  · omega
  · rw [Nat.mul_comm]; exact Nat.lt_mul_div_succ col h0
theorem column_le (ts : Nat) (h0 : 0 < ts) : ∀ (x : List Nat) (col : Nat), col + x.length ≤ x.foldl (columnStep ts) col
  | [], col => Nat.le_refl _
  | c :: r, col => by
    have h1 := columnStep_lt ts h0 col c
    have h2 := column_le ts h0 r (columnStep ts col c)
    rw [List.foldl_cons, List.length_cons]; omega
/-- runs in any order -/
noncomputable def runs (closed : List (List Nat)) (z : WS) : WS := ⟨closed.foldl (fun c q => bump c q.length) z.count, 0, z.n + ((closed.map List.length).sum + closed.length), z.nt + closed.length⟩
theorem scan_spaces : ∀ (q : List Nat) (z : WS), (∀ c ∈ q, c = 32) → scan q z = ⟨z.count, z.b + q.length, z.n + q.length, z.nt⟩
  | [], _, _ => rfl
  | c :: r, z, h => by
    rw [scan, if_pos (h c (.head _)), scan_spaces r _ fun d hd => h d (.tail _ hd), List.length_cons]
    show WS.mk z.count (z.b + 1 + r.length) (z.n + 1 + r.length) z.nt = _
    rw [Nat.add_right_comm z.b, Nat.add_right_comm z.n]; rfl
theorem scan_runs : ∀ (closed : List (List Nat)) (z : WS), (∀ q ∈ closed, ∀ c ∈ q, c = 32) → z.b = 0 → scan (closed.flatMap (· ++ [9])) z = runs closed z
  | [], ⟨count, b, n, nt⟩, _, h => by
    cases h; rfl
  | q :: r, z, hc, h => by
    have hq := hc q (.head _)
    have hbl : blank (q ++ [9]) := fun c hm => by
      rcases List.mem_append.mp hm with hm | hm
      · exact .inl (hq c hm)
      · exact .inr (List.mem_singleton.mp hm)
    rw [List.flatMap_cons, scan_app _ _ _ hbl, scan_app q [9] z fun c hm => .inl (hq c hm), scan_spaces q z hq]
    show scan _ ⟨bump z.count (z.b + q.length), 0, z.n + q.length + 1, z.nt + 1⟩ = _
    rw [scan_runs r _ (fun q hq => hc q (.tail _ hq)) rfl, h, Nat.zero_add]
    unfold runs
    simp only [List.foldl_cons, List.map_cons, List.sum_cons, List.length_cons, WS.mk.injEq, true_and]
    omega
theorem runs_perm {a b : List (List Nat)} (h : a.Perm b) (z : WS) : runs a z = runs b z := by
  unfold runs
  rw [h.length_eq, (h.map List.length).sum_nat, h.foldl_eq' (fun x _ y _ c => bump_comm c x.length y.length)]
/-- a line's lead, turned, and its sign -/
theorem lead_blank (r : Nat) : ∀ i, blank (lead r i) := by
  have hu : ∀ k, blank (unit k) := by
    intro k
    have h : ∀ j, j < 6 → ∀ c ∈ units6.getD j [], c = 32 ∨ c = 9 := by decide
    exact h _ (Nat.mod_lt _ (by decide))
  intro i
  induction i with
  | zero => exact fun c h => hu r c (List.mem_of_mem_drop h)
  | succ i ih =>
    intro c h
    rcases List.mem_append.mp h with h | h
    · exact ih c h
    · exact hu _ c h
theorem unit_ne (k : Nat) : 0 < (unit k).length := by
  have h : ∀ j, j < 6 → 0 < (units6.getD j []).length := by decide
  exact h _ (Nat.mod_lt _ (by decide))
theorem sign_head (c : Nat) : ∃ a q, em 2 (sign c) = a :: q ∧ a ≠ 32 ∧ a ≠ 9 := by
  have h : ∀ k, k < 9 → (match em 2 (signs.getD k 0) with | [] => false | a :: _ => a != 32 && a != 9) = true := by decide
  have h := h _ (Nat.mod_lt (c / 12) (by decide : 0 < 9))
  unfold sign
  split at h
  · cases h
  · rename_i a q e
    refine ⟨a, q, e, ?_⟩
    simpa using h
theorem line_scan {r d c : Nat} {x : List Nat} (h : LineOf r (d, sign c) x) : scan0 x = scan0 (lead r d) ∧ x.drop (scan0 x).n = spelledL 2 (sign c) 1 := by
  obtain ⟨closed, closed', last, rfl, hl, hp, hc, hla⟩ := h
  have hb := lead_blank r d
  rw [show lead r d = J closed last from hl] at hb
  have h32 : ∀ q ∈ closed, ∀ c ∈ q, c = 32 := fun q hq c hm => by
    rcases hb c (List.mem_append_left _ (List.mem_flatMap.mpr ⟨q, hq, List.mem_append_left _ hm⟩)) with e | e
    · exact e
    · subst e; exact absurd hm (hc q hq)
  have hl32 : ∀ c ∈ last, c = 32 := fun c hm => by
    rcases hb c (List.mem_append_right _ hm) with e | e
    · exact e
    · subst e; exact absurd hm hla
  have hjb : ∀ {k : List (List Nat)}, (∀ q ∈ k, ∀ c ∈ q, c = 32) → blank (k.flatMap (· ++ [9])) := fun hk c hm => by
    obtain ⟨q, hq, hm⟩ := List.mem_flatMap.mp hm
    rcases List.mem_append.mp hm with hm | hm
    · exact .inl (hk q hq c hm)
    · exact .inr (List.mem_singleton.mp hm)
  have h32' : ∀ q ∈ closed', ∀ c ∈ q, c = 32 := fun q hq => h32 q (hp.mem_iff.mp hq)
  have hb' : blank (J closed' last) := fun c hm => by
    rcases List.mem_append.mp hm with hm | hm
    · exact hjb h32' c hm
    · exact .inl (hl32 c hm)
  obtain ⟨a, q, ea, h1, h2⟩ := sign_head c
  have eq1 : esc 2 [sign c] = a :: q := by rw [esc_cons, ea]; exact List.append_nil _
  have eq2 : spelledL 2 (sign c) 1 = a :: q := by rw [spelled1, ea]
  have e1 : scan0 (J closed' last ++ esc 2 [sign c]) = scan0 (J closed' last) := by
    unfold scan0
    rw [scan_app _ _ _ hb', eq1, scan, if_neg h1, if_neg h2]
  have e2 : scan0 (J closed' last) = scan0 (J closed last) := by
    unfold scan0 J
    rw [scan_app _ _ _ (hjb h32'), scan_app _ _ _ (hjb h32), scan_runs _ _ h32' rfl, scan_runs _ _ h32 rfl, runs_perm hp]
  have e3 : (scan0 (J closed' last)).n = (J closed' last).length := by
    unfold scan0
    rw [scan_n _ _ hb', Nat.zero_add]
  refine ⟨by rw [e1, e2, ← hl], ?_⟩
  rw [e1, e3, List.drop_left, eq1, eq2]
/-- the pile -/
noncomputable def Wd (r d : Nat) : WS := scan0 (lead r d)
noncomputable def pileOf (r : Nat) : Nat → List WS
  | 0 => []
  | p + 1 => Wd r p :: pileOf r p
theorem pileOf_len (r : Nat) : ∀ p, (pileOf r p).length = p
  | 0 => rfl
  | p + 1 => by rw [pileOf, List.length_cons, pileOf_len r p]
theorem Wd_n (r d : Nat) : (Wd r d).n = (lead r d).length := by
  unfold Wd scan0
  rw [scan_n _ _ (lead_blank r d), Nat.zero_add]
theorem lead_mono (r : Nat) (d : Nat) : ∀ k, (lead r d).length + k ≤ (lead r (d + k)).length
  | 0 => Nat.le_refl _
  | k + 1 => by
    have := lead_mono r d k
    have h := unit_ne (r / 6 ^ (d + k + 1))
    rw [show lead r (d + (k + 1)) = lead r (d + k) ++ unit (r / 6 ^ (d + k + 1)) from rfl, List.length_append]; omega
theorem Wd_lt {r d e : Nat} (h : d < e) : (Wd r d).n < (Wd r e).n := by
  have := lead_mono r d (e - d)
  rw [show d + (e - d) = e by omega] at this
  rw [Wd_n, Wd_n]; omega
theorem less_next (r d : Nat) : lessW (Wd r d) (Wd r (d + 1)) = true := by
  have hn := Wd_lt (r := r) (show d < d + 1 by omega)
  unfold lessW
  rw [if_neg (by omega)]
  split
  · have : (Wd r d).nt ≤ (Wd r (d + 1)).nt := by
      unfold Wd scan0
      rw [lead, scan_app _ _ _ (lead_blank r d)]
      exact scan_nt _ _
    exact decide_eq_true this
  · refine List.all_eq_true.mpr fun i hi => decide_eq_true ?_
    show levelW (scan0 (lead r d)) (2 + i) < levelW (scan0 (lead r (d + 1))) (2 + i)
    rw [level_column _ (by omega) _ (lead_blank r d), level_column _ (by omega) _ (lead_blank r (d + 1)), columnL, columnL, lead, List.foldl_append]
    have h1 := column_le (2 + i) (by omega) (unit (r / 6 ^ (d + 1))) ((lead r d).foldl (columnStep (2 + i)) 0)
    have h2 := unit_ne (r / 6 ^ (d + 1))
    omega
theorem less_not {r d e : Nat} (h : e ≤ d) : lessW (Wd r d) (Wd r e) = false := by
  have : (Wd r e).n ≤ (Wd r d).n := by
    rcases Nat.lt_or_eq_of_le h with h | h
    · exact Nat.le_of_lt (Wd_lt h)
    · rw [h]; exact Nat.le_refl _
  unfold lessW
  rw [if_pos this]
theorem same_n {x y : List Nat} (h : sameW (scan0 x) (scan0 y) = true) : (scan0 x).n = (scan0 y).n := by
  obtain ⟨h1, h2⟩ := of_decide_eq_true h
  have a : ((scan0 x).n : Int) = _ := scan_wt x ⟨[], 0, 0, 0⟩ rfl
  have b : ((scan0 y).n : Int) = _ := scan_wt y ⟨[], 0, 0, 0⟩ rfl
  unfold scan0 at *
  rw [h1] at a
  omega
theorem pop_pile (r : Nat) : ∀ p d, d < p → popR (Wd r d) (pileOf r p) = pileOf r (d + 1)
  | 0, _, h => absurd h (Nat.not_lt_zero _)
  | p + 1, d, h => by
    rw [pileOf, popR]
    by_cases hd : d = p
    · subst hd
      rw [if_pos (by unfold sameW; exact decide_eq_true ⟨rfl, rfl⟩)]; rfl
    · have hn := Wd_lt (r := r) (show d < p by omega)
      rw [if_neg (fun hs => by have := same_n hs; unfold Wd at hn; omega)]
      exact pop_pile r p d (by omega)
theorem step_pile (r p d : Nat) (h : d ≤ p) : stepR (Wd r d) (pileOf r p) = pileOf r (d + 1) := by
  cases p with
  | zero =>
    rw [Nat.le_zero.mp h]; rfl
  | succ p =>
    show (if lessW (Wd r p) (Wd r d) = true then Wd r d :: Wd r p :: pileOf r p else popR (Wd r d) (pileOf r (p + 1))) = _
    by_cases hd : d = p + 1
    · subst hd
      rw [if_pos (less_next r p)]; rfl
    · rw [less_not (by omega), if_neg (by decide)]
      exact pop_pile r (p + 1) d (by omega)
/-- the lines from the head on -/
noncomputable def AllL (r : Nat) : List (Nat × Nat) → List (List Nat) → Prop
  | [], [] => True
  | nd :: t, x :: xs => LineOf r nd x ∧ AllL r t xs
  | [], _ :: _ => False
  | _ :: _, [] => False
theorem AllL.snoc {r : Nat} {nd : Nat × Nat} {x : List Nat} (hx : LineOf r nd x) : ∀ {t : List (Nat × Nat)} {xs : List (List Nat)}, AllL r t xs → AllL r (t ++ [nd]) (xs ++ [x])
  | [], [], _ => ⟨hx, trivial⟩
  | _ :: _, _ :: _, h => ⟨h.1, AllL.snoc hx h.2⟩
  | [], _ :: _, h => h.elim
  | _ :: _, [], h => h.elim
theorem AllL.of {r : Nat} : ∀ {t : List (Nat × Nat)} {xs : List (List Nat)}, LinesOf r t xs → AllL r t xs
  | _, _, .nil => trivial
  | _, _, .snoc h hx => AllL.snoc hx (AllL.of h)
theorem seen_all (r size : Nat) (h0 : 0 < size) : ∀ (cells : List Nat) (p : Nat) (xs : List (List Nat)), AllL r (treeL cells p) xs → seenR size xs (pileOf r p) = (treeL cells p).map (dueOf r size)
  | [], p, [], _ => rfl
  | [], p, _ :: _, h => h.elim
  | c :: cs, p, [], h => h.elim
  | c :: cs, p, x :: xs, h => by
    obtain ⟨h1, h2⟩ := h
    obtain ⟨e1, e2⟩ := line_scan h1
    have hd : c % min (p + 1) 4 ≤ p := by
      have := Nat.mod_lt c (y := min (p + 1) 4) (by omega)
      omega
    have e3 : stepR (scan0 x) (pileOf r p) = pileOf r (c % min (p + 1) 4 + 1) := by
      rw [e1]; exact step_pile r p _ hd
    rw [seenR, e3, e2, e1, pileOf_len, seen_all r size h0 cs _ xs h2, level_column size h0 _ (lead_blank r _), treeL, List.map_cons, dueOf]
    congr 2
    show ((c % min (p + 1) 4 + 1 : Nat) : Int) - 1 = ((c % min (p + 1) 4 : Nat) : Int)
    omega
theorem hM3 (r : Nat) (cells : List Nat) (size : Nat) (xs : List (List Nat)) (h2 : 2 ≤ size) (h : LinesOf r (treeL cells 0) xs) : seenR size xs [] = (treeL cells 0).map (dueOf r size) :=
  seen_all r size (by omega) cells 0 xs (AllL.of h)
end Mine
end
-- TFin
section
open PySem PySem.W PyProof.Rows PySem.Calls
set_option maxRecDepth 100000
set_option Elab.async false
set_option linter.unusedVariables false
set_option maxHeartbeats 8000000
namespace Mine
theorem fillF : PySem.Challenge.rw_wn0108_01 = PySem.Challenge.rw_wn0108_01 ∧ Mine.hd.heap_39 = Mine.hd.heap_39 := by
  k_fill
  exact ⟨rfl, rfl⟩
theorem ns_law (w : World) : nsIn (hd.heap_39 w.params) mainGlobals "law" = some (some (.ref 243)) := by k_is
theorem finT : PySem.Challenge.rw_wn0108_01.Holds := by
  refine holds_law said fun said => ?_
  refine holds_open (q := hd.view_39) (loose := loose) (Xt := xt) (XP := XL hd.view_39 []) (Yf := Hook.obs hook) (Ya := Hook.val hook) (YP := Hook.says hook) (N := 3264) left (Hook.of hook) (Hook.keeps hook) (fun s e => xl_of s (Bool.and_eq_true_iff.mp e).1) XL.keeps (by rfl) (by rfl) (by rfl) (fun s e => recFacts_of (Bool.and_eq_true_iff.mp e).2) (by rfl) (by first | assumption | decide +kernel) (by decide +kernel) ⟨rfl, rfl, rfl, rfl, rfl, by decide +kernel⟩ ?hw ?hc
  case hw => w_witness2
  case hc =>
    k_fill
    intro w s₀ s₁ mg mb G Y fa o pm cd doc dV kV ho hd hcd hD hmg hg args vals as hpre hlay hrd hwl hlo
    have KX := kIn_of Y
    have X := (Ground.X G).1
    have V := (Ground.X G).2
    refine Ground.open G ?_
    intro T B D TE TW
    clear hcd hD hd
    wrow_args hpre hlay hrd hwl hlo
    (rename IntsAre _ _ => hI)
    (rename Heap.IsList _ _ _ => hL)
    (rename ¬ _ < _ => hlen)
    have e243 := mg_of KX (topRead_of T).g (ns_law w)
    have e := hmg.symm.trans e243
    cases e
    have Z : Cz w callerA s₁.heap [] _ _ _ _ _ s₁.heap := ⟨rfl, below_caller _, KX, T, fun b hb => nomatch hb⟩
    refine wpAny_mono (law_spec (fun cells hand _ _ => hM1 cells hand) (fun cells _ => hM2 cells) (fun r cells size xs _ h2 h => hM3 r cells size xs h2 h) Z ⟨by decide, by decide⟩ hL hI (by omega)) (fun v s' h => ?_) (fun _ _ h => h.elim)
    obtain ⟨h', tk', rfl, hk, rfl⟩ := h
    refine GoodW.toG ?_
    have hkeep : ∀ b o, s₁.heap.get? b = some o → h'.get? b = some o := fun b o e => hk.keep b o e (fun hb => nomatch hb)
    refine ⟨.inl ⟨_, .bool true, [], rfl, raisesW_false ?_, .bool true, ?_, unshared_nil⟩, hkeep, rfl, hg⟩
    · wrow_none_raised
    · wrow_post
end Mine
end
set_option maxRecDepth 100000 in
set_option maxHeartbeats 8000000 in
theorem PySem.Challenge.cw_wn0108_01_holds : PySem.Challenge.rw_wn0108_01.Holds :=
  Mine.finT
