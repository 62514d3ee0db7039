import PyProof.Rows.All
import Wide.All
import OpenK.AllK
import Wide.FinOn
import KE.KNest
import PyProof.ExcInit
import PyProof.InstLoad
import PyProof.InstStoreFacts
import PyProof.ExcAttrAll.Exception
import PyProof.NsDelKeeps
import PyProof.P3Eq
import Lean
import PySem.Challenge.RW_mj0223_01
set_option Elab.async false
set_option linter.all false
set_option maxRecDepth 100000
set_option maxHeartbeats 8000000
set_option genSizeOf false
set_option genInjectivity false
set_option compiler.extract_closed false
open PySem PySem.W PyProof.Rows
open PySem.Str (ofString)
open List (length_map forall_mem_cons mem_cons_self map_cons mem_cons_of_mem length_append lookup_cons length_singleton all_eq_true mem_cons mem_map length_cons mem_singleton map_append map_map mem_range filterMap_cons length_drop mem_append nil_append length_range zip_cons_cons not_mem_nil length_replicate map_nil length_take contains_iff_mem all_cons mem_of_getElem takeWhile_cons length_nil filterMap_nil append_nil append_assoc nodup_cons foldl_cons flatten_cons filter_eq_self filter_cons mem_of_mem_drop length_filter_le zip_nil_right zip_nil_left size_toArray replicate_succ mem_of_mem_take mem_filter map_congr_left lookup_nil getD forall_mem_nil drop_of_length_le zip_map take_of_length_le contains_cons any_toArray any_eq_true any_cons)
namespace Mine
theorem osi {α : Type _} {a b : α} (h : some a = some b) : a = b := Option.some.inj h
theorem fmc {α : Type _} {p : α -> Prop} {a : α} {l : List α} (h : p a /\ ∀ x ∈ l, p x) : ∀ x ∈ a :: l, p x := forall_mem_cons.mpr h
noncomputable abbrev hp : Program := PySem.Challenge.rw_mj0223_01.row.toRowW.prog
noncomputable def hB : List Stmt := behindTheImports hp
noncomputable def hAt (i : Nat) : Stmt := hB.getD i default
noncomputable def hIn (i j : Nat) : Stmt := match hAt i with
 | .ClassDef _ _ _ b .. => b.getD j default
 | s => s
noncomputable def hS (s : String) (t : Nat) : Value := .str (ofString s) t
noncomputable def hFd (s : Stmt) (q : String) (g : Addr) (pm cd : Value) : FuncData := match s with
 | .FunctionDef n ps b _ _ _ sc .. => { name := n, qualname := ofString q, params := ps, body := .stmts b, scope := sc, globals := g, closure := [], defaults := .none, kwdefaults := .none, pyModule := pm, code := cd }
 | _ => default
noncomputable def hP (s : Stmt) (q : String) : Obj := { cls := .none, data := .func (hFd s q 0 .none .none) }
noncomputable def hG (s : Stmt) (q : String) (pm cd : Value) : Obj := { cls := .type "function", data := .func (hFd s q 3 pm cd) }
noncomputable def hTu (l : List Value) : Obj := { cls := .type "tuple", data := .seq l.toArray }
noncomputable def hN (l : List Value) : Obj := { cls := .none, data := .fields l.toArray }
noncomputable def hF (c : String) (l : List Value) : Obj := { cls := .type c, data := .fields l.toArray }
noncomputable def hO (c : Value) (d : Data) (l : List (Option Value)) : Obj := { cls := c, data := d, slots := l.toArray }
noncomputable def hE (P : Params) : String × Nat × Value -> DictEntry
 | (k, t, v) => { hash := PyData.keyHash P (ofString k), key := .str (ofString k) t, val := v }
noncomputable def hD (P : Params) (c : Value) (l : List (String × Nat × Value)) (n : Nat) : Obj := { cls := c, data := .dict (l.map (hE P)).toArray n }
noncomputable def g13 (P : Params) : Obj := hF "code" [hS "<module>" 182, hS "<module>" 183, hS "/claim/cut.py" 184, .int 1 0, .int 0 0, .int 0 0, .int 0 0, .int 0 0, .ref 11, .bool false, .int 181 0, .ref 12, .none, .none, .none, .none, .int 185 0, .int 1 0, hS "/claim/cut.py" 186]
noncomputable def g14 (P : Params) : Obj := hO (.type "frame") (.plain) [some (.ref 13), some (.ref 3), some (.ref 3), none, some (hS "__main__" 164), none, some (.ref 0)]
noncomputable def hsa (P : Params) : List Obj := [boot_o_0 P, boot_o_1 P, boot_o_2 P, boot_o_3 P, boot_o_4 P, boot_o_5 P, boot_o_6 P, boot_o_7 P, boot_o_8 P, boot_o_9 P, boot_o_10 P, boot_o_7 P, boot_o_8 P, g13 P, g14 P]
noncomputable def hsb (P : Params) : List Obj := [boot_o_0 P, boot_o_1 P, boot_o_2 P, boot_o_3 P, boot_o_4 P, boot_o_5 P, boot_o_6 P, boot_o_7 P, boot_o_8 P, boot_o_9 P, boot_o_10 P, boot_o_7 P, boot_o_8 P, g13 P, g14 P]
noncomputable def g2 (P : Params) : Obj := hD P .none [("type.__subclasses__.Exception.0", 239, .int 52 0), ("type.__subclasses__.Exception.n", 240, .int 1 0)] 2
noncomputable def g3 (P : Params) : Obj := hD P (.type "dict") [("__name__", 165, hS "cpy313.tabnanny" 187), ("__doc__", 166, .none), ("__package__", 167, .none), ("__loader__", 168, .builtin "__main__.__loader__#opaque"), ("__spec__", 169, .none), ("__annotations__", 170, .ref 6), ("__builtins__", 171, .ref 4), ("__file__", 173, hS "/claim/cut.py" 172), ("__cached__", 174, .none), ("NannyNag", 242, .ref 52)] 10
noncomputable def g12 (P : Params) : Obj := hN [.int 2 0, .int 0 0, .ref 20]
noncomputable def g15 (P : Params) : Obj := hTu [.type "Exception"]
noncomputable def g16 (P : Params) : Obj := hF "builtin_function_or_method" [.builtin "type.__prepare__", .type "type"]
noncomputable def g17 (P : Params) : Obj := hD P (.type "dict") [("__module__", 196, hS "cpy313.tabnanny" 187), ("__qualname__", 198, hS "NannyNag" 197), ("__firstlineno__", 200, .int 2 199), ("__init__", 210, .ref 28), ("get_lineno", 217, .ref 35), ("get_msg", 224, .ref 42), ("get_line", 231, .ref 49), ("__static_attributes__", 235, .ref 50)] 8
noncomputable def g19 (P : Params) : Obj := hN [.int 4 0, .int 4 0, .ref 27, .int 7 0, .int 4 0, .ref 34, .int 10 0, .int 4 0, .ref 41, .int 13 0, .int 4 0, .ref 48]
noncomputable def g20 (P : Params) : Obj := hF "code" [hS "NannyNag" 191, hS "NannyNag" 192, hS "/claim/cut.py" 193, .int 2 0, .int 0 0, .int 0 0, .int 0 0, .int 0 0, .ref 18, .bool false, .int 181 0, .ref 19, .none, .none, .none, .none, .int 194 0, .int 2 0, hS "/claim/cut.py" 195]
noncomputable def g21 (P : Params) : Obj := hO (.type "frame") (.plain) [some (.ref 20), some (.ref 3), some (.ref 17), none, some (hS "cpy313.tabnanny" 187), none, some (.ref 0)]
noncomputable def g24 (P : Params) : Obj := hTu [hS "self" 204, hS "lineno" 205, hS "msg" 206, hS "line" 207]
noncomputable def g26 (P : Params) : Obj := hP (hIn 1 0) "NannyNag.__init__"
noncomputable def g27 (P : Params) : Obj := hF "code" [hS "__init__" 201, hS "NannyNag.__init__" 202, hS "/claim/cut.py" 203, .int 4 0, .int 4 0, .int 0 0, .int 0 0, .int 3 0, .ref 22, .bool true, .int 181 0, .ref 23, .none, .ref 24, .ref 25, .ref 26, .int 208 0, .int 4 0, hS "/claim/cut.py" 209]
noncomputable def g28 (P : Params) : Obj := hG (hIn 1 0) "NannyNag.__init__" (hS "cpy313.tabnanny" 187) (.ref 27)
noncomputable def g31 (P : Params) : Obj := hTu [hS "self" 214]
noncomputable def g33 (P : Params) : Obj := hP (hIn 1 1) "NannyNag.get_lineno"
noncomputable def g34 (P : Params) : Obj := hF "code" [hS "get_lineno" 211, hS "NannyNag.get_lineno" 212, hS "/claim/cut.py" 213, .int 7 0, .int 1 0, .int 0 0, .int 0 0, .int 3 0, .ref 29, .bool true, .int 181 0, .ref 30, .none, .ref 31, .ref 32, .ref 33, .int 215 0, .int 7 0, hS "/claim/cut.py" 216]
noncomputable def g35 (P : Params) : Obj := hG (hIn 1 1) "NannyNag.get_lineno" (hS "cpy313.tabnanny" 187) (.ref 34)
noncomputable def g38 (P : Params) : Obj := hTu [hS "self" 221]
noncomputable def g40 (P : Params) : Obj := hP (hIn 1 2) "NannyNag.get_msg"
noncomputable def g41 (P : Params) : Obj := hF "code" [hS "get_msg" 218, hS "NannyNag.get_msg" 219, hS "/claim/cut.py" 220, .int 10 0, .int 1 0, .int 0 0, .int 0 0, .int 3 0, .ref 36, .bool true, .int 181 0, .ref 37, .none, .ref 38, .ref 39, .ref 40, .int 222 0, .int 10 0, hS "/claim/cut.py" 223]
noncomputable def g42 (P : Params) : Obj := hG (hIn 1 2) "NannyNag.get_msg" (hS "cpy313.tabnanny" 187) (.ref 41)
noncomputable def g45 (P : Params) : Obj := hTu [hS "self" 228]
noncomputable def g47 (P : Params) : Obj := hP (hIn 1 3) "NannyNag.get_line"
noncomputable def g48 (P : Params) : Obj := hF "code" [hS "get_line" 225, hS "NannyNag.get_line" 226, hS "/claim/cut.py" 227, .int 13 0, .int 1 0, .int 0 0, .int 0 0, .int 3 0, .ref 43, .bool true, .int 181 0, .ref 44, .none, .ref 45, .ref 46, .ref 47, .int 229 0, .int 13 0, hS "/claim/cut.py" 230]
noncomputable def g49 (P : Params) : Obj := hG (hIn 1 3) "NannyNag.get_line" (hS "cpy313.tabnanny" 187) (.ref 48)
noncomputable def g50 (P : Params) : Obj := hTu [hS "line" 232, hS "lineno" 233, hS "msg" 234]
noncomputable def g51 (P : Params) : Obj := hD P (.type "dict") [("__module__", 196, hS "cpy313.tabnanny" 187), ("__firstlineno__", 200, .int 2 199), ("__init__", 210, .ref 28), ("get_lineno", 217, .ref 35), ("get_msg", 224, .ref 42), ("get_line", 231, .ref 49), ("__static_attributes__", 235, .ref 50), ("__weakref__", 237, .ref 53), ("__doc__", 238, .none)] 3
noncomputable def g52 (P : Params) : Obj := { cls := .type "type", data := .cls { name := ofString "NannyNag", bases := [.type "Exception"], mro := [.ref 52, .type "Exception", .type "BaseException", .type "object"], ns := 51, qualname := ofString "NannyNag", hasDict := true, slotNames := [], subclasses := [] }, slots := #[some (.ref 15), none, some (hS "NannyNag" 189), some (hS "NannyNag" 197), some (.builtin "Exception.__new__"), some (.bool true)] }
noncomputable def g53 (P : Params) : Obj := hF "getset_descriptor" [hS "__weakref__" 236, .ref 52, .builtin "ExceptionGroup.__weakref__", .none]
noncomputable def g54 (P : Params) : Obj := hF "super" [.ref 52, .ref 52, .ref 52]
noncomputable def g55 (P : Params) : Obj := hF "builtin_function_or_method" [.builtin "object.__init_subclass__", .ref 52]
noncomputable def hs2 (P : Params) : List Obj := [boot_o_0 P, boot_o_1 P, g2 P, g3 P, boot_o_4 P, boot_o_5 P, boot_o_6 P, boot_o_7 P, boot_o_8 P, boot_o_9 P, boot_o_10 P, boot_o_7 P, g12 P, g13 P, g14 P, g15 P, g16 P, g17 P, boot_o_7 P, g19 P, g20 P, g21 P, boot_o_7 P, boot_o_8 P, g24 P, boot_o_7 P, g26 P, g27 P, g28 P, boot_o_7 P, boot_o_8 P, g31 P, boot_o_7 P, g33 P, g34 P, g35 P, boot_o_7 P, boot_o_8 P, g38 P, boot_o_7 P, g40 P, g41 P, g42 P, boot_o_7 P, boot_o_8 P, g45 P, boot_o_7 P, g47 P, g48 P, g49 P, g50 P, g51 P, g52 P, g53 P, g54 P, g55 P]
noncomputable def g3_1 (P : Params) : Obj := hD P (.type "dict") [("__name__", 165, hS "cpy313.tabnanny" 187), ("__doc__", 166, .none), ("__package__", 167, .none), ("__loader__", 168, .builtin "__main__.__loader__#opaque"), ("__spec__", 169, .none), ("__annotations__", 170, .ref 6), ("__builtins__", 171, .ref 4), ("__file__", 173, hS "/claim/cut.py" 172), ("__cached__", 174, .none), ("NannyNag", 242, .ref 52), ("Whitespace", 348, .ref 117), ("format_witnesses", 357, .ref 128)] 12
noncomputable def g12_1 (P : Params) : Obj := hN [.int 2 0, .int 0 0, .ref 20, .int 15 0, .int 0 0, .ref 61, .int 81 0, .int 0 0, .ref 127]
noncomputable def g58 (P : Params) : Obj := hD P (.type "dict") [("__module__", 250, hS "cpy313.tabnanny" 187), ("__qualname__", 252, hS "Whitespace" 251), ("__firstlineno__", 254, .int 15 253), ("S", 258, hS " " 256), ("T", 259, hS "\t" 257), ("__init__", 274, .ref 72), ("longest_run_of_spaces", 283, .ref 79), ("indent_level", 295, .ref 86), ("equal", 303, .ref 93), ("not_equal_witness", 314, .ref 100), ("less", 324, .ref 107), ("not_less_witness", 335, .ref 114), ("__static_attributes__", 341, .ref 115)] 13
noncomputable def g60 (P : Params) : Obj := hN [.int 18 0, .int 4 0, .ref 71, .int 41 0, .int 4 0, .ref 78, .int 45 0, .int 4 0, .ref 85, .int 52 0, .int 4 0, .ref 92, .int 55 0, .int 4 0, .ref 99, .int 63 0, .int 4 0, .ref 106, .int 74 0, .int 4 0, .ref 113]
noncomputable def g61 (P : Params) : Obj := hF "code" [hS "Whitespace" 245, hS "Whitespace" 246, hS "/claim/cut.py" 247, .int 15 0, .int 0 0, .int 0 0, .int 0 0, .int 0 0, .ref 59, .bool false, .int 181 0, .ref 60, .none, .none, .none, .none, .int 248 0, .int 15 0, hS "/claim/cut.py" 249]
noncomputable def g62 (P : Params) : Obj := hO (.type "frame") (.plain) [some (.ref 61), some (.ref 3), some (.ref 58), none, some (hS "cpy313.tabnanny" 187), none, some (.ref 0)]
noncomputable def g63 (P : Params) : Obj := hF "str_ascii_iterator" [.none, .int 2 0]
noncomputable def g65 (P : Params) : Obj := hF "StopIteration" [.ref 64, .none, .none, .none, .bool false, .none]
noncomputable def g68 (P : Params) : Obj := hTu [hS "self" 263, hS "ws" 264, hS "S" 265, hS "T" 266, hS "count" 267, hS "b" 268, hS "n" 269, hS "nt" 270, hS "ch" 271]
noncomputable def g70 (P : Params) : Obj := hP (hIn 2 1) "Whitespace.__init__"
noncomputable def g71 (P : Params) : Obj := hF "code" [hS "__init__" 260, hS "Whitespace.__init__" 261, hS "/claim/cut.py" 262, .int 18 0, .int 2 0, .int 0 0, .int 0 0, .int 3 0, .ref 66, .bool true, .int 181 0, .ref 67, .none, .ref 68, .ref 69, .ref 70, .int 272 0, .int 18 0, hS "/claim/cut.py" 273]
noncomputable def g72 (P : Params) : Obj := hG (hIn 2 1) "Whitespace.__init__" (hS "cpy313.tabnanny" 187) (.ref 71)
noncomputable def g75 (P : Params) : Obj := hTu [hS "self" 278, hS "count" 279, hS "trailing" 280]
noncomputable def g77 (P : Params) : Obj := hP (hIn 2 2) "Whitespace.longest_run_of_spaces"
noncomputable def g78 (P : Params) : Obj := hF "code" [hS "longest_run_of_spaces" 275, hS "Whitespace.longest_run_of_spaces" 276, hS "/claim/cut.py" 277, .int 41 0, .int 1 0, .int 0 0, .int 0 0, .int 3 0, .ref 73, .bool true, .int 181 0, .ref 74, .none, .ref 75, .ref 76, .ref 77, .int 281 0, .int 41 0, hS "/claim/cut.py" 282]
noncomputable def g79 (P : Params) : Obj := hG (hIn 2 2) "Whitespace.longest_run_of_spaces" (hS "cpy313.tabnanny" 187) (.ref 78)
noncomputable def g82 (P : Params) : Obj := hTu [hS "self" 287, hS "tabsize" 288, hS "count" 289, hS "trailing" 290, hS "il" 291, hS "i" 292]
noncomputable def g84 (P : Params) : Obj := hP (hIn 2 3) "Whitespace.indent_level"
noncomputable def g85 (P : Params) : Obj := hF "code" [hS "indent_level" 284, hS "Whitespace.indent_level" 285, hS "/claim/cut.py" 286, .int 45 0, .int 2 0, .int 0 0, .int 0 0, .int 3 0, .ref 80, .bool true, .int 181 0, .ref 81, .none, .ref 82, .ref 83, .ref 84, .int 293 0, .int 45 0, hS "/claim/cut.py" 294]
noncomputable def g86 (P : Params) : Obj := hG (hIn 2 3) "Whitespace.indent_level" (hS "cpy313.tabnanny" 187) (.ref 85)
noncomputable def g89 (P : Params) : Obj := hTu [hS "self" 299, hS "other" 300]
noncomputable def g91 (P : Params) : Obj := hP (hIn 2 4) "Whitespace.equal"
noncomputable def g92 (P : Params) : Obj := hF "code" [hS "equal" 296, hS "Whitespace.equal" 297, hS "/claim/cut.py" 298, .int 52 0, .int 2 0, .int 0 0, .int 0 0, .int 3 0, .ref 87, .bool true, .int 181 0, .ref 88, .none, .ref 89, .ref 90, .ref 91, .int 301 0, .int 52 0, hS "/claim/cut.py" 302]
noncomputable def g93 (P : Params) : Obj := hG (hIn 2 4) "Whitespace.equal" (hS "cpy313.tabnanny" 187) (.ref 92)
noncomputable def g96 (P : Params) : Obj := hTu [hS "self" 307, hS "other" 308, hS "n" 309, hS "a" 310, hS "ts" 311]
noncomputable def g98 (P : Params) : Obj := hP (hIn 2 5) "Whitespace.not_equal_witness"
noncomputable def g99 (P : Params) : Obj := hF "code" [hS "not_equal_witness" 304, hS "Whitespace.not_equal_witness" 305, hS "/claim/cut.py" 306, .int 55 0, .int 2 0, .int 0 0, .int 0 0, .int 3 0, .ref 94, .bool true, .int 181 0, .ref 95, .none, .ref 96, .ref 97, .ref 98, .int 312 0, .int 55 0, hS "/claim/cut.py" 313]
noncomputable def g100 (P : Params) : Obj := hG (hIn 2 5) "Whitespace.not_equal_witness" (hS "cpy313.tabnanny" 187) (.ref 99)
noncomputable def g103 (P : Params) : Obj := hTu [hS "self" 318, hS "other" 319, hS "n" 320, hS "ts" 321]
noncomputable def g105 (P : Params) : Obj := hP (hIn 2 6) "Whitespace.less"
noncomputable def g106 (P : Params) : Obj := hF "code" [hS "less" 315, hS "Whitespace.less" 316, hS "/claim/cut.py" 317, .int 63 0, .int 2 0, .int 0 0, .int 0 0, .int 3 0, .ref 101, .bool true, .int 181 0, .ref 102, .none, .ref 103, .ref 104, .ref 105, .int 322 0, .int 63 0, hS "/claim/cut.py" 323]
noncomputable def g107 (P : Params) : Obj := hG (hIn 2 6) "Whitespace.less" (hS "cpy313.tabnanny" 187) (.ref 106)
noncomputable def g110 (P : Params) : Obj := hTu [hS "self" 328, hS "other" 329, hS "n" 330, hS "a" 331, hS "ts" 332]
noncomputable def g112 (P : Params) : Obj := hP (hIn 2 7) "Whitespace.not_less_witness"
noncomputable def g113 (P : Params) : Obj := hF "code" [hS "not_less_witness" 325, hS "Whitespace.not_less_witness" 326, hS "/claim/cut.py" 327, .int 74 0, .int 2 0, .int 0 0, .int 0 0, .int 3 0, .ref 108, .bool true, .int 181 0, .ref 109, .none, .ref 110, .ref 111, .ref 112, .int 333 0, .int 74 0, hS "/claim/cut.py" 334]
noncomputable def g114 (P : Params) : Obj := hG (hIn 2 7) "Whitespace.not_less_witness" (hS "cpy313.tabnanny" 187) (.ref 113)
noncomputable def g115 (P : Params) : Obj := hTu [hS "is_simple" 336, hS "n" 337, hS "norm" 338, hS "nt" 339, hS "raw" 340]
noncomputable def g116 (P : Params) : Obj := hD P (.type "dict") [("__module__", 250, hS "cpy313.tabnanny" 187), ("__firstlineno__", 254, .int 15 253), ("S", 258, hS " " 256), ("T", 259, hS "\t" 257), ("__init__", 274, .ref 72), ("longest_run_of_spaces", 283, .ref 79), ("indent_level", 295, .ref 86), ("equal", 303, .ref 93), ("not_equal_witness", 314, .ref 100), ("less", 324, .ref 107), ("not_less_witness", 335, .ref 114), ("__static_attributes__", 341, .ref 115), ("__dict__", 343, .ref 118), ("__weakref__", 345, .ref 119), ("__doc__", 346, .none)] 4
noncomputable def g117 (P : Params) : Obj := { cls := .type "type", data := .cls { name := ofString "Whitespace", bases := [.type "object"], mro := [.ref 117, .type "object"], ns := 116, qualname := ofString "Whitespace", hasDict := true, slotNames := [], subclasses := [] }, slots := #[none, none, some (hS "Whitespace" 243), some (hS "Whitespace" 251), some (.builtin "object.__new__"), some (.bool true)] }
noncomputable def g118 (P : Params) : Obj := hF "getset_descriptor" [hS "__dict__" 342, .ref 117, .builtin "function.__dict__", .builtin "function.__dict__#set"]
noncomputable def g119 (P : Params) : Obj := hF "getset_descriptor" [hS "__weakref__" 344, .ref 117, .builtin "ExceptionGroup.__weakref__", .none]
noncomputable def g120 (P : Params) : Obj := hF "super" [.ref 117, .ref 117, .ref 117]
noncomputable def g121 (P : Params) : Obj := hF "builtin_function_or_method" [.builtin "object.__init_subclass__", .ref 117]
noncomputable def g124 (P : Params) : Obj := hTu [hS "w" 352, hS "firsts" 353, hS "prefix" 354]
noncomputable def g126 (P : Params) : Obj := hP (hAt 3) "format_witnesses"
noncomputable def g127 (P : Params) : Obj := hF "code" [hS "format_witnesses" 349, hS "format_witnesses" 350, hS "/claim/cut.py" 351, .int 81 0, .int 1 0, .int 0 0, .int 0 0, .int 3 0, .ref 122, .bool true, .int 181 0, .ref 123, .none, .ref 124, .ref 125, .ref 126, .int 355 0, .int 81 0, hS "/claim/cut.py" 356]
noncomputable def g128 (P : Params) : Obj := hG (hAt 3) "format_witnesses" (hS "cpy313.tabnanny" 187) (.ref 127)
noncomputable def hs4 (P : Params) : List Obj := [boot_o_0 P, boot_o_1 P, g2 P, g3_1 P, boot_o_4 P, boot_o_5 P, boot_o_6 P, boot_o_7 P, boot_o_8 P, boot_o_9 P, boot_o_10 P, boot_o_7 P, g12_1 P, g13 P, g14 P, g15 P, g16 P, g17 P, boot_o_7 P, g19 P, g20 P, g21 P, boot_o_7 P, boot_o_8 P, g24 P, boot_o_7 P, g26 P, g27 P, g28 P, boot_o_7 P, boot_o_8 P, g31 P, boot_o_7 P, g33 P, g34 P, g35 P, boot_o_7 P, boot_o_8 P, g38 P, boot_o_7 P, g40 P, g41 P, g42 P, boot_o_7 P, boot_o_8 P, g45 P, boot_o_7 P, g47 P, g48 P, g49 P, g50 P, g51 P, g52 P, g53 P, g54 P, g55 P, boot_o_7 P, g16 P, g58 P, boot_o_7 P, g60 P, g61 P, g62 P, g63 P, boot_o_7 P, g65 P, boot_o_7 P, boot_o_8 P, g68 P, boot_o_7 P, g70 P, g71 P, g72 P, boot_o_7 P, boot_o_8 P, g75 P, boot_o_7 P, g77 P, g78 P, g79 P, boot_o_7 P, boot_o_8 P, g82 P, boot_o_7 P, g84 P, g85 P, g86 P, boot_o_7 P, boot_o_8 P, g89 P, boot_o_7 P, g91 P, g92 P, g93 P, boot_o_7 P, boot_o_8 P, g96 P, boot_o_7 P, g98 P, g99 P, g100 P, boot_o_7 P, boot_o_8 P, g103 P, boot_o_7 P, g105 P, g106 P, g107 P, boot_o_7 P, boot_o_8 P, g110 P, boot_o_7 P, g112 P, g113 P, g114 P, g115 P, g116 P, g117 P, g118 P, g119 P, g120 P, g121 P, boot_o_7 P, boot_o_8 P, g124 P, boot_o_7 P, g126 P, g127 P, g128 P]
noncomputable def g3_2 (P : Params) : Obj := hD P (.type "dict") [("__name__", 165, hS "cpy313.token" 358), ("__doc__", 166, .none), ("__package__", 167, .none), ("__loader__", 168, .builtin "__main__.__loader__#opaque"), ("__spec__", 169, .none), ("__annotations__", 170, .ref 6), ("__builtins__", 171, .ref 4), ("__file__", 173, hS "/claim/cut.py" 172), ("__cached__", 174, .none), ("NannyNag", 242, .ref 52), ("Whitespace", 348, .ref 117), ("format_witnesses", 357, .ref 128), ("ENDMARKER", 361, .int 0 360), ("NEWLINE", 363, .int 4 362), ("INDENT", 365, .int 5 364), ("DEDENT", 367, .int 6 366), ("LPAR", 369, .int 7 368), ("RPAR", 371, .int 8 370), ("LSQB", 373, .int 9 372), ("RSQB", 375, .int 10 374), ("COLON", 377, .int 11 376), ("COMMA", 379, .int 12 378), ("SEMI", 381, .int 13 380), ("PLUS", 383, .int 14 382), ("MINUS", 385, .int 15 384), ("STAR", 387, .int 16 386), ("SLASH", 389, .int 17 388), ("VBAR", 391, .int 18 390), ("AMPER", 393, .int 19 392), ("LESS", 395, .int 20 394), ("GREATER", 397, .int 21 396), ("EQUAL", 399, .int 22 398), ("DOT", 401, .int 23 400), ("PERCENT", 403, .int 24 402), ("LBRACE", 405, .int 25 404), ("RBRACE", 407, .int 26 406), ("EQEQUAL", 409, .int 27 408), ("NOTEQUAL", 411, .int 28 410), ("LESSEQUAL", 413, .int 29 412), ("GREATEREQUAL", 415, .int 30 414), ("TILDE", 417, .int 31 416), ("CIRCUMFLEX", 419, .int 32 418), ("LEFTSHIFT", 421, .int 33 420), ("RIGHTSHIFT", 423, .int 34 422), ("DOUBLESTAR", 425, .int 35 424), ("PLUSEQUAL", 427, .int 36 426), ("MINEQUAL", 429, .int 37 428), ("STAREQUAL", 431, .int 38 430), ("SLASHEQUAL", 433, .int 39 432), ("PERCENTEQUAL", 435, .int 40 434), ("AMPEREQUAL", 437, .int 41 436), ("VBAREQUAL", 439, .int 42 438), ("CIRCUMFLEXEQUAL", 441, .int 43 440), ("LEFTSHIFTEQUAL", 443, .int 44 442), ("RIGHTSHIFTEQUAL", 445, .int 45 444), ("DOUBLESTAREQUAL", 447, .int 46 446), ("DOUBLESLASH", 449, .int 47 448), ("DOUBLESLASHEQUAL", 451, .int 48 450), ("AT", 453, .int 49 452), ("ATEQUAL", 455, .int 50 454), ("RARROW", 457, .int 51 456), ("ELLIPSIS", 459, .int 52 458), ("COLONEQUAL", 461, .int 53 460), ("EXCLAMATION", 463, .int 54 462), ("NL", 465, .int 63 464), ("NT_OFFSET", 467, .int 256 466)] 66
noncomputable def hs59 (P : Params) : List Obj := [boot_o_0 P, boot_o_1 P, g2 P, g3_2 P, boot_o_4 P, boot_o_5 P, boot_o_6 P, boot_o_7 P, boot_o_8 P, boot_o_9 P, boot_o_10 P, boot_o_7 P, g12_1 P, g13 P, g14 P, g15 P, g16 P, g17 P, boot_o_7 P, g19 P, g20 P, g21 P, boot_o_7 P, boot_o_8 P, g24 P, boot_o_7 P, g26 P, g27 P, g28 P, boot_o_7 P, boot_o_8 P, g31 P, boot_o_7 P, g33 P, g34 P, g35 P, boot_o_7 P, boot_o_8 P, g38 P, boot_o_7 P, g40 P, g41 P, g42 P, boot_o_7 P, boot_o_8 P, g45 P, boot_o_7 P, g47 P, g48 P, g49 P, g50 P, g51 P, g52 P, g53 P, g54 P, g55 P, boot_o_7 P, g16 P, g58 P, boot_o_7 P, g60 P, g61 P, g62 P, g63 P, boot_o_7 P, g65 P, boot_o_7 P, boot_o_8 P, g68 P, boot_o_7 P, g70 P, g71 P, g72 P, boot_o_7 P, boot_o_8 P, g75 P, boot_o_7 P, g77 P, g78 P, g79 P, boot_o_7 P, boot_o_8 P, g82 P, boot_o_7 P, g84 P, g85 P, g86 P, boot_o_7 P, boot_o_8 P, g89 P, boot_o_7 P, g91 P, g92 P, g93 P, boot_o_7 P, boot_o_8 P, g96 P, boot_o_7 P, g98 P, g99 P, g100 P, boot_o_7 P, boot_o_8 P, g103 P, boot_o_7 P, g105 P, g106 P, g107 P, boot_o_7 P, boot_o_8 P, g110 P, boot_o_7 P, g112 P, g113 P, g114 P, g115 P, g116 P, g117 P, g118 P, g119 P, g120 P, g121 P, boot_o_7 P, boot_o_8 P, g124 P, boot_o_7 P, g126 P, g127 P, g128 P]
noncomputable def g3_3 (P : Params) : Obj := hD P (.type "dict") [("__name__", 165, hS "cpy313.token" 358), ("__doc__", 166, .none), ("__package__", 167, .none), ("__loader__", 168, .builtin "__main__.__loader__#opaque"), ("__spec__", 169, .none), ("__annotations__", 170, .ref 6), ("__builtins__", 171, .ref 4), ("__file__", 173, hS "/claim/cut.py" 172), ("__cached__", 174, .none), ("NannyNag", 242, .ref 52), ("Whitespace", 348, .ref 117), ("format_witnesses", 357, .ref 128), ("ENDMARKER", 361, .int 0 360), ("NEWLINE", 363, .int 4 362), ("INDENT", 365, .int 5 364), ("DEDENT", 367, .int 6 366), ("LPAR", 369, .int 7 368), ("RPAR", 371, .int 8 370), ("LSQB", 373, .int 9 372), ("RSQB", 375, .int 10 374), ("COLON", 377, .int 11 376), ("COMMA", 379, .int 12 378), ("SEMI", 381, .int 13 380), ("PLUS", 383, .int 14 382), ("MINUS", 385, .int 15 384), ("STAR", 387, .int 16 386), ("SLASH", 389, .int 17 388), ("VBAR", 391, .int 18 390), ("AMPER", 393, .int 19 392), ("LESS", 395, .int 20 394), ("GREATER", 397, .int 21 396), ("EQUAL", 399, .int 22 398), ("DOT", 401, .int 23 400), ("PERCENT", 403, .int 24 402), ("LBRACE", 405, .int 25 404), ("RBRACE", 407, .int 26 406), ("EQEQUAL", 409, .int 27 408), ("NOTEQUAL", 411, .int 28 410), ("LESSEQUAL", 413, .int 29 412), ("GREATEREQUAL", 415, .int 30 414), ("TILDE", 417, .int 31 416), ("CIRCUMFLEX", 419, .int 32 418), ("LEFTSHIFT", 421, .int 33 420), ("RIGHTSHIFT", 423, .int 34 422), ("DOUBLESTAR", 425, .int 35 424), ("PLUSEQUAL", 427, .int 36 426), ("MINEQUAL", 429, .int 37 428), ("STAREQUAL", 431, .int 38 430), ("SLASHEQUAL", 433, .int 39 432), ("PERCENTEQUAL", 435, .int 40 434), ("AMPEREQUAL", 437, .int 41 436), ("VBAREQUAL", 439, .int 42 438), ("CIRCUMFLEXEQUAL", 441, .int 43 440), ("LEFTSHIFTEQUAL", 443, .int 44 442), ("RIGHTSHIFTEQUAL", 445, .int 45 444), ("DOUBLESTAREQUAL", 447, .int 46 446), ("DOUBLESLASH", 449, .int 47 448), ("DOUBLESLASHEQUAL", 451, .int 48 450), ("AT", 453, .int 49 452), ("ATEQUAL", 455, .int 50 454), ("RARROW", 457, .int 51 456), ("ELLIPSIS", 459, .int 52 458), ("COLONEQUAL", 461, .int 53 460), ("EXCLAMATION", 463, .int 54 462), ("NL", 465, .int 63 464), ("NT_OFFSET", 467, .int 256 466), ("EXACT_TOKEN_TYPES", 564, .ref 129)] 67
noncomputable def g129 (P : Params) : Obj := hD P (.type "dict") [("!", 468, .int 54 462), ("!=", 470, .int 28 410), ("%", 472, .int 24 402), ("%=", 474, .int 40 434), ("&", 476, .int 19 392), ("&=", 478, .int 41 436), ("(", 480, .int 7 368), (")", 482, .int 8 370), ("*", 484, .int 16 386), ("**", 486, .int 35 424), ("**=", 488, .int 46 446), ("*=", 490, .int 38 430), ("+", 492, .int 14 382), ("+=", 494, .int 36 426), (",", 496, .int 12 378), ("-", 498, .int 15 384), ("-=", 500, .int 37 428), ("->", 502, .int 51 456), (".", 504, .int 23 400), ("...", 506, .int 52 458), ("/", 508, .int 17 388), ("//", 510, .int 47 448), ("//=", 512, .int 48 450), ("/=", 514, .int 39 432), (":", 516, .int 11 376), (":=", 518, .int 53 460), (";", 520, .int 13 380), ("<", 522, .int 20 394), ("<<", 524, .int 33 420), ("<<=", 526, .int 44 442), ("<=", 528, .int 29 412), ("=", 530, .int 22 398), ("==", 532, .int 27 408), (">", 534, .int 21 396), (">=", 536, .int 30 414), (">>", 537, .int 34 422), (">>=", 538, .int 45 444), ("@", 539, .int 49 452), ("@=", 540, .int 50 454), ("[", 541, .int 9 372), ("]", 542, .int 10 374), ("^", 543, .int 32 418), ("^=", 544, .int 43 440), ("{", 545, .int 25 404), ("|", 546, .int 18 390), ("|=", 547, .int 42 438), ("}", 548, .int 26 406), ("~", 549, .int 31 416)] 48
noncomputable def g130 (P : Params) : Obj := hD P (.type "dict") [("->", 502, .int 51 456), (".", 504, .int 23 400), ("...", 506, .int 52 458), ("/", 508, .int 17 388), ("//", 510, .int 47 448), ("//=", 512, .int 48 450), ("/=", 514, .int 39 432), (":", 516, .int 11 376), (":=", 518, .int 53 460), (";", 520, .int 13 380), ("<", 522, .int 20 394), ("<<", 524, .int 33 420), ("<<=", 526, .int 44 442), ("<=", 528, .int 29 412), ("=", 530, .int 22 398), ("==", 532, .int 27 408), (">", 534, .int 21 396)] 17
noncomputable def g131 (P : Params) : Obj := hD P (.type "dict") [(">=", 536, .int 30 414), (">>", 537, .int 34 422), (">>=", 538, .int 45 444), ("@", 539, .int 49 452), ("@=", 540, .int 50 454), ("[", 541, .int 9 372), ("]", 542, .int 10 374), ("^", 543, .int 32 418), ("^=", 544, .int 43 440), ("{", 545, .int 25 404), ("|", 546, .int 18 390), ("|=", 547, .int 42 438), ("}", 548, .int 26 406), ("~", 549, .int 31 416)] 14
noncomputable def hs60 (P : Params) : List Obj := [boot_o_0 P, boot_o_1 P, g2 P, g3_3 P, boot_o_4 P, boot_o_5 P, boot_o_6 P, boot_o_7 P, boot_o_8 P, boot_o_9 P, boot_o_10 P, boot_o_7 P, g12_1 P, g13 P, g14 P, g15 P, g16 P, g17 P, boot_o_7 P, g19 P, g20 P, g21 P, boot_o_7 P, boot_o_8 P, g24 P, boot_o_7 P, g26 P, g27 P, g28 P, boot_o_7 P, boot_o_8 P, g31 P, boot_o_7 P, g33 P, g34 P, g35 P, boot_o_7 P, boot_o_8 P, g38 P, boot_o_7 P, g40 P, g41 P, g42 P, boot_o_7 P, boot_o_8 P, g45 P, boot_o_7 P, g47 P, g48 P, g49 P, g50 P, g51 P, g52 P, g53 P, g54 P, g55 P, boot_o_7 P, g16 P, g58 P, boot_o_7 P, g60 P, g61 P, g62 P, g63 P, boot_o_7 P, g65 P, boot_o_7 P, boot_o_8 P, g68 P, boot_o_7 P, g70 P, g71 P, g72 P, boot_o_7 P, boot_o_8 P, g75 P, boot_o_7 P, g77 P, g78 P, g79 P, boot_o_7 P, boot_o_8 P, g82 P, boot_o_7 P, g84 P, g85 P, g86 P, boot_o_7 P, boot_o_8 P, g89 P, boot_o_7 P, g91 P, g92 P, g93 P, boot_o_7 P, boot_o_8 P, g96 P, boot_o_7 P, g98 P, g99 P, g100 P, boot_o_7 P, boot_o_8 P, g103 P, boot_o_7 P, g105 P, g106 P, g107 P, boot_o_7 P, boot_o_8 P, g110 P, boot_o_7 P, g112 P, g113 P, g114 P, g115 P, g116 P, g117 P, g118 P, g119 P, g120 P, g121 P, boot_o_7 P, boot_o_8 P, g124 P, boot_o_7 P, g126 P, g127 P, g128 P, g129 P, g130 P, g131 P]
noncomputable def g3_4 (P : Params) : Obj := hD P (.type "dict") [("__name__", 165, hS "law_mj0223_01" 586), ("__doc__", 166, .none), ("__package__", 167, .none), ("__loader__", 168, .builtin "__main__.__loader__#opaque"), ("__spec__", 169, .none), ("__annotations__", 170, .ref 6), ("__builtins__", 171, .ref 4), ("__file__", 173, hS "/claim/cut.py" 172), ("__cached__", 174, .none), ("NannyNag", 242, .ref 52), ("Whitespace", 348, .ref 117), ("format_witnesses", 357, .ref 128), ("ENDMARKER", 361, .int 0 360), ("NEWLINE", 363, .int 4 362), ("INDENT", 365, .int 5 364), ("DEDENT", 367, .int 6 366), ("LPAR", 369, .int 7 368), ("RPAR", 371, .int 8 370), ("LSQB", 373, .int 9 372), ("RSQB", 375, .int 10 374), ("COLON", 377, .int 11 376), ("COMMA", 379, .int 12 378), ("SEMI", 381, .int 13 380), ("PLUS", 383, .int 14 382), ("MINUS", 385, .int 15 384), ("STAR", 387, .int 16 386), ("SLASH", 389, .int 17 388), ("VBAR", 391, .int 18 390), ("AMPER", 393, .int 19 392), ("LESS", 395, .int 20 394), ("GREATER", 397, .int 21 396), ("EQUAL", 399, .int 22 398), ("DOT", 401, .int 23 400), ("PERCENT", 403, .int 24 402), ("LBRACE", 405, .int 25 404), ("RBRACE", 407, .int 26 406), ("EQEQUAL", 409, .int 27 408), ("NOTEQUAL", 411, .int 28 410), ("LESSEQUAL", 413, .int 29 412), ("GREATEREQUAL", 415, .int 30 414), ("TILDE", 417, .int 31 416), ("CIRCUMFLEX", 419, .int 32 418), ("LEFTSHIFT", 421, .int 33 420), ("RIGHTSHIFT", 423, .int 34 422), ("DOUBLESTAR", 425, .int 35 424), ("PLUSEQUAL", 427, .int 36 426), ("MINEQUAL", 429, .int 37 428), ("STAREQUAL", 431, .int 38 430), ("SLASHEQUAL", 433, .int 39 432), ("PERCENTEQUAL", 435, .int 40 434), ("AMPEREQUAL", 437, .int 41 436), ("VBAREQUAL", 439, .int 42 438), ("CIRCUMFLEXEQUAL", 441, .int 43 440), ("LEFTSHIFTEQUAL", 443, .int 44 442), ("RIGHTSHIFTEQUAL", 445, .int 45 444), ("DOUBLESTAREQUAL", 447, .int 46 446), ("DOUBLESLASH", 449, .int 47 448), ("DOUBLESLASHEQUAL", 451, .int 48 450), ("AT", 453, .int 49 452), ("ATEQUAL", 455, .int 50 454), ("RARROW", 457, .int 51 456), ("ELLIPSIS", 459, .int 52 458), ("COLONEQUAL", 461, .int 53 460), ("EXCLAMATION", 463, .int 54 462), ("NL", 465, .int 63 464), ("NT_OFFSET", 467, .int 256 466), ("EXACT_TOKEN_TYPES", 564, .ref 129), ("ISTERMINAL", 571, .ref 138), ("ISNONTERMINAL", 578, .ref 145), ("ISEOF", 585, .ref 152), ("_law_texts", 593, .ref 159), ("_law_page", 599, .ref 164), ("_law_steps", 613, .ref 171), ("_law_numbers", 619, .ref 176), ("_law_read", 635, .ref 183), ("_law_columns", 646, .ref 190), ("_law_under", 652, .ref 195), ("_law_words", 658, .ref 200), ("_law_cut", 664, .ref 205), ("_law_depth", 670, .ref 210), ("_law_told", 676, .ref 215), ("law", 682, .ref 220)] 82
noncomputable def g12_2 (P : Params) : Obj := hN [.int 2 0, .int 0 0, .ref 20, .int 15 0, .int 0 0, .ref 61, .int 81 0, .int 0 0, .ref 127, .int 143 0, .int 0 0, .ref 137, .int 145 0, .int 0 0, .ref 144, .int 147 0, .int 0 0, .ref 151, .int 150 0, .int 0 0, .ref 158, .int 152 0, .int 0 0, .ref 163, .int 165 0, .int 0 0, .ref 170, .int 180 0, .int 0 0, .ref 175, .int 188 0, .int 0 0, .ref 182, .int 211 0, .int 0 0, .ref 189, .int 219 0, .int 0 0, .ref 194, .int 221 0, .int 0 0, .ref 199, .int 225 0, .int 0 0, .ref 204, .int 236 0, .int 0 0, .ref 209, .int 239 0, .int 0 0, .ref 214, .int 272 0, .int 0 0, .ref 219]
noncomputable def g134 (P : Params) : Obj := hTu [hS "x" 568]
noncomputable def g136 (P : Params) : Obj := hP (hAt 60) "ISTERMINAL"
noncomputable def g137 (P : Params) : Obj := hF "code" [hS "ISTERMINAL" 565, hS "ISTERMINAL" 566, hS "/claim/cut.py" 567, .int 143 0, .int 1 0, .int 0 0, .int 0 0, .int 3 0, .ref 132, .bool true, .int 181 0, .ref 133, .none, .ref 134, .ref 135, .ref 136, .int 569 0, .int 143 0, hS "/claim/cut.py" 570]
noncomputable def g138 (P : Params) : Obj := hG (hAt 60) "ISTERMINAL" (hS "cpy313.token" 358) (.ref 137)
noncomputable def g141 (P : Params) : Obj := hTu [hS "x" 575]
noncomputable def g143 (P : Params) : Obj := hP (hAt 61) "ISNONTERMINAL"
noncomputable def g144 (P : Params) : Obj := hF "code" [hS "ISNONTERMINAL" 572, hS "ISNONTERMINAL" 573, hS "/claim/cut.py" 574, .int 145 0, .int 1 0, .int 0 0, .int 0 0, .int 3 0, .ref 139, .bool true, .int 181 0, .ref 140, .none, .ref 141, .ref 142, .ref 143, .int 576 0, .int 145 0, hS "/claim/cut.py" 577]
noncomputable def g145 (P : Params) : Obj := hG (hAt 61) "ISNONTERMINAL" (hS "cpy313.token" 358) (.ref 144)
noncomputable def g148 (P : Params) : Obj := hTu [hS "x" 582]
noncomputable def g150 (P : Params) : Obj := hP (hAt 62) "ISEOF"
noncomputable def g151 (P : Params) : Obj := hF "code" [hS "ISEOF" 579, hS "ISEOF" 580, hS "/claim/cut.py" 581, .int 147 0, .int 1 0, .int 0 0, .int 0 0, .int 3 0, .ref 146, .bool true, .int 181 0, .ref 147, .none, .ref 148, .ref 149, .ref 150, .int 583 0, .int 147 0, hS "/claim/cut.py" 584]
noncomputable def g152 (P : Params) : Obj := hG (hAt 62) "ISEOF" (hS "cpy313.token" 358) (.ref 151)
noncomputable def g157 (P : Params) : Obj := hP (hAt 64) "_law_texts"
noncomputable def g158 (P : Params) : Obj := hF "code" [hS "_law_texts" 588, hS "_law_texts" 589, hS "/claim/cut.py" 590, .int 150 0, .int 0 0, .int 0 0, .int 0 0, .int 3 0, .ref 153, .bool true, .int 181 0, .ref 154, .none, .ref 155, .ref 156, .ref 157, .int 591 0, .int 150 0, hS "/claim/cut.py" 592]
noncomputable def g159 (P : Params) : Obj := hG (hAt 64) "_law_texts" (hS "law_mj0223_01" 586) (.ref 158)
noncomputable def g162 (P : Params) : Obj := hP (hAt 65) "_law_page"
noncomputable def g163 (P : Params) : Obj := hF "code" [hS "_law_page" 594, hS "_law_page" 595, hS "/claim/cut.py" 596, .int 152 0, .int 1 0, .int 0 0, .int 0 0, .int 3 0, .ref 160, .bool true, .int 181 0, .ref 161, .none, .none, .none, .ref 162, .int 597 0, .int 152 0, hS "/claim/cut.py" 598]
noncomputable def g164 (P : Params) : Obj := hG (hAt 65) "_law_page" (hS "law_mj0223_01" 586) (.ref 163)
noncomputable def g167 (P : Params) : Obj := hTu [hS "stack" 603, hS "line" 604, hS "place" 605, hS "mine" 606, hS "out" 607, hS "elder" 608, hS "words" 609, hS "k" 610]
noncomputable def g169 (P : Params) : Obj := hP (hAt 66) "_law_steps"
noncomputable def g170 (P : Params) : Obj := hF "code" [hS "_law_steps" 600, hS "_law_steps" 601, hS "/claim/cut.py" 602, .int 165 0, .int 3 0, .int 0 0, .int 0 0, .int 3 0, .ref 165, .bool true, .int 181 0, .ref 166, .none, .ref 167, .ref 168, .ref 169, .int 611 0, .int 165 0, hS "/claim/cut.py" 612]
noncomputable def g171 (P : Params) : Obj := hG (hAt 66) "_law_steps" (hS "law_mj0223_01" 586) (.ref 170)
noncomputable def g174 (P : Params) : Obj := hP (hAt 67) "_law_numbers"
noncomputable def g175 (P : Params) : Obj := hF "code" [hS "_law_numbers" 614, hS "_law_numbers" 615, hS "/claim/cut.py" 616, .int 180 0, .int 1 0, .int 0 0, .int 0 0, .int 3 0, .ref 172, .bool true, .int 181 0, .ref 173, .none, .none, .none, .ref 174, .int 617 0, .int 180 0, hS "/claim/cut.py" 618]
noncomputable def g176 (P : Params) : Obj := hG (hAt 67) "_law_numbers" (hS "law_mj0223_01" 586) (.ref 175)
noncomputable def g179 (P : Params) : Obj := hTu [hS "lines" 623, hS "stack" 624, hS "row" 625, hS "nags" 626, hS "deep" 627, hS "k" 628, hS "line" 629, hS "fits" 630, hS "nag" 631, hS "t" 632]
noncomputable def g181 (P : Params) : Obj := hP (hAt 68) "_law_read"
noncomputable def g182 (P : Params) : Obj := hF "code" [hS "_law_read" 620, hS "_law_read" 621, hS "/claim/cut.py" 622, .int 188 0, .int 1 0, .int 0 0, .int 0 0, .int 3 0, .ref 177, .bool true, .int 181 0, .ref 178, .none, .ref 179, .ref 180, .ref 181, .int 633 0, .int 188 0, hS "/claim/cut.py" 634]
noncomputable def g183 (P : Params) : Obj := hG (hAt 68) "_law_read" (hS "law_mj0223_01" 586) (.ref 182)
noncomputable def g186 (P : Params) : Obj := hTu [hS "lead" 639, hS "told" 640, hS "size" 641, hS "at" 642, hS "sign" 643]
noncomputable def g188 (P : Params) : Obj := hP (hAt 69) "_law_columns"
noncomputable def g189 (P : Params) : Obj := hF "code" [hS "_law_columns" 636, hS "_law_columns" 637, hS "/claim/cut.py" 638, .int 211 0, .int 1 0, .int 0 0, .int 0 0, .int 3 0, .ref 184, .bool true, .int 181 0, .ref 185, .none, .ref 186, .ref 187, .ref 188, .int 644 0, .int 211 0, hS "/claim/cut.py" 645]
noncomputable def g190 (P : Params) : Obj := hG (hAt 69) "_law_columns" (hS "law_mj0223_01" 586) (.ref 189)
noncomputable def g193 (P : Params) : Obj := hP (hAt 70) "_law_under"
noncomputable def g194 (P : Params) : Obj := hF "code" [hS "_law_under" 647, hS "_law_under" 648, hS "/claim/cut.py" 649, .int 219 0, .int 2 0, .int 0 0, .int 0 0, .int 3 0, .ref 191, .bool true, .int 181 0, .ref 192, .none, .none, .none, .ref 193, .int 650 0, .int 219 0, hS "/claim/cut.py" 651]
noncomputable def g195 (P : Params) : Obj := hG (hAt 70) "_law_under" (hS "law_mj0223_01" 586) (.ref 194)
noncomputable def g198 (P : Params) : Obj := hP (hAt 71) "_law_words"
noncomputable def g199 (P : Params) : Obj := hF "code" [hS "_law_words" 653, hS "_law_words" 654, hS "/claim/cut.py" 655, .int 221 0, .int 3 0, .int 0 0, .int 0 0, .int 3 0, .ref 196, .bool true, .int 181 0, .ref 197, .none, .none, .none, .ref 198, .int 656 0, .int 221 0, hS "/claim/cut.py" 657]
noncomputable def g200 (P : Params) : Obj := hG (hAt 71) "_law_words" (hS "law_mj0223_01" 586) (.ref 199)
noncomputable def g203 (P : Params) : Obj := hP (hAt 72) "_law_cut"
noncomputable def g204 (P : Params) : Obj := hF "code" [hS "_law_cut" 659, hS "_law_cut" 660, hS "/claim/cut.py" 661, .int 225 0, .int 2 0, .int 0 0, .int 0 0, .int 3 0, .ref 201, .bool true, .int 181 0, .ref 202, .none, .none, .none, .ref 203, .int 662 0, .int 225 0, hS "/claim/cut.py" 663]
noncomputable def g205 (P : Params) : Obj := hG (hAt 72) "_law_cut" (hS "law_mj0223_01" 586) (.ref 204)
noncomputable def g208 (P : Params) : Obj := hP (hAt 73) "_law_depth"
noncomputable def g209 (P : Params) : Obj := hF "code" [hS "_law_depth" 665, hS "_law_depth" 666, hS "/claim/cut.py" 667, .int 236 0, .int 1 0, .int 0 0, .int 0 0, .int 3 0, .ref 206, .bool true, .int 181 0, .ref 207, .none, .none, .none, .ref 208, .int 668 0, .int 236 0, hS "/claim/cut.py" 669]
noncomputable def g210 (P : Params) : Obj := hG (hAt 73) "_law_depth" (hS "law_mj0223_01" 586) (.ref 209)
noncomputable def g213 (P : Params) : Obj := hP (hAt 74) "_law_told"
noncomputable def g214 (P : Params) : Obj := hF "code" [hS "_law_told" 671, hS "_law_told" 672, hS "/claim/cut.py" 673, .int 239 0, .int 1 0, .int 0 0, .int 0 0, .int 3 0, .ref 211, .bool true, .int 181 0, .ref 212, .none, .none, .none, .ref 213, .int 674 0, .int 239 0, hS "/claim/cut.py" 675]
noncomputable def g215 (P : Params) : Obj := hG (hAt 74) "_law_told" (hS "law_mj0223_01" 586) (.ref 214)
noncomputable def g218 (P : Params) : Obj := hP (hAt 75) "law"
noncomputable def g219 (P : Params) : Obj := hF "code" [hS "law" 677, hS "law" 678, hS "/claim/cut.py" 679, .int 272 0, .int 1 0, .int 0 0, .int 0 0, .int 3 0, .ref 216, .bool true, .int 181 0, .ref 217, .none, .none, .none, .ref 218, .int 680 0, .int 272 0, hS "/claim/cut.py" 681]
noncomputable def g220 (P : Params) : Obj := hG (hAt 75) "law" (hS "law_mj0223_01" 586) (.ref 219)
noncomputable def hs76 (P : Params) : List Obj := [boot_o_0 P, boot_o_1 P, g2 P, g3_4 P, boot_o_4 P, boot_o_5 P, boot_o_6 P, boot_o_7 P, boot_o_8 P, boot_o_9 P, boot_o_10 P, boot_o_7 P, g12_2 P, g13 P, g14 P, g15 P, g16 P, g17 P, boot_o_7 P, g19 P, g20 P, g21 P, boot_o_7 P, boot_o_8 P, g24 P, boot_o_7 P, g26 P, g27 P, g28 P, boot_o_7 P, boot_o_8 P, g31 P, boot_o_7 P, g33 P, g34 P, g35 P, boot_o_7 P, boot_o_8 P, g38 P, boot_o_7 P, g40 P, g41 P, g42 P, boot_o_7 P, boot_o_8 P, g45 P, boot_o_7 P, g47 P, g48 P, g49 P, g50 P, g51 P, g52 P, g53 P, g54 P, g55 P, boot_o_7 P, g16 P, g58 P, boot_o_7 P, g60 P, g61 P, g62 P, g63 P, boot_o_7 P, g65 P, boot_o_7 P, boot_o_8 P, g68 P, boot_o_7 P, g70 P, g71 P, g72 P, boot_o_7 P, boot_o_8 P, g75 P, boot_o_7 P, g77 P, g78 P, g79 P, boot_o_7 P, boot_o_8 P, g82 P, boot_o_7 P, g84 P, g85 P, g86 P, boot_o_7 P, boot_o_8 P, g89 P, boot_o_7 P, g91 P, g92 P, g93 P, boot_o_7 P, boot_o_8 P, g96 P, boot_o_7 P, g98 P, g99 P, g100 P, boot_o_7 P, boot_o_8 P, g103 P, boot_o_7 P, g105 P, g106 P, g107 P, boot_o_7 P, boot_o_8 P, g110 P, boot_o_7 P, g112 P, g113 P, g114 P, g115 P, g116 P, g117 P, g118 P, g119 P, g120 P, g121 P, boot_o_7 P, boot_o_8 P, g124 P, boot_o_7 P, g126 P, g127 P, g128 P, g129 P, g130 P, g131 P, boot_o_7 P, boot_o_8 P, g134 P, boot_o_7 P, g136 P, g137 P, g138 P, boot_o_7 P, boot_o_8 P, g141 P, boot_o_7 P, g143 P, g144 P, g145 P, boot_o_7 P, boot_o_8 P, g148 P, boot_o_7 P, g150 P, g151 P, g152 P, boot_o_7 P, boot_o_8 P, boot_o_7 P, boot_o_7 P, g157 P, g158 P, g159 P, boot_o_7 P, boot_o_8 P, g162 P, g163 P, g164 P, boot_o_7 P, boot_o_8 P, g167 P, boot_o_7 P, g169 P, g170 P, g171 P, boot_o_7 P, boot_o_8 P, g174 P, g175 P, g176 P, boot_o_7 P, boot_o_8 P, g179 P, boot_o_7 P, g181 P, g182 P, g183 P, boot_o_7 P, boot_o_8 P, g186 P, boot_o_7 P, g188 P, g189 P, g190 P, boot_o_7 P, boot_o_8 P, g193 P, g194 P, g195 P, boot_o_7 P, boot_o_8 P, g198 P, g199 P, g200 P, boot_o_7 P, boot_o_8 P, g203 P, g204 P, g205 P, boot_o_7 P, boot_o_8 P, g208 P, g209 P, g210 P, boot_o_7 P, boot_o_8 P, g213 P, g214 P, g215 P, boot_o_7 P, boot_o_8 P, g218 P, g219 P, g220 P]
noncomputable def hK (P : Params) : Frag := [(2, g2 P), (3, g3_4 P), (15, g15 P), (22, boot_o_7 P), (24, g24 P), (25, boot_o_7 P), (27, g27 P), (28, g28 P), (29, boot_o_7 P), (31, g31 P), (32, boot_o_7 P), (34, g34 P), (35, g35 P), (36, boot_o_7 P), (38, g38 P), (39, boot_o_7 P), (41, g41 P), (42, g42 P), (43, boot_o_7 P), (45, g45 P), (46, boot_o_7 P), (48, g48 P), (49, g49 P), (50, g50 P), (51, g51 P), (52, g52 P), (53, g53 P), (66, boot_o_7 P), (68, g68 P), (69, boot_o_7 P), (71, g71 P), (72, g72 P), (73, boot_o_7 P), (75, g75 P), (76, boot_o_7 P), (78, g78 P), (79, g79 P), (80, boot_o_7 P), (82, g82 P), (83, boot_o_7 P), (85, g85 P), (86, g86 P), (87, boot_o_7 P), (89, g89 P), (90, boot_o_7 P), (92, g92 P), (93, g93 P), (94, boot_o_7 P), (96, g96 P), (97, boot_o_7 P), (99, g99 P), (100, g100 P), (101, boot_o_7 P), (103, g103 P), (104, boot_o_7 P), (106, g106 P), (107, g107 P), (108, boot_o_7 P), (110, g110 P), (111, boot_o_7 P), (113, g113 P), (114, g114 P), (115, g115 P), (116, g116 P), (117, g117 P), (118, g118 P), (119, g119 P), (122, boot_o_7 P), (124, g124 P), (125, boot_o_7 P), (127, g127 P), (128, g128 P), (129, g129 P), (132, boot_o_7 P), (134, g134 P), (135, boot_o_7 P), (137, g137 P), (138, g138 P), (139, boot_o_7 P), (141, g141 P), (142, boot_o_7 P), (144, g144 P), (145, g145 P), (146, boot_o_7 P), (148, g148 P), (149, boot_o_7 P), (151, g151 P), (152, g152 P), (153, boot_o_7 P), (155, boot_o_7 P), (156, boot_o_7 P), (158, g158 P), (159, g159 P), (160, boot_o_7 P), (163, g163 P), (164, g164 P), (165, boot_o_7 P), (167, g167 P), (168, boot_o_7 P), (170, g170 P), (171, g171 P), (172, boot_o_7 P), (175, g175 P), (176, g176 P), (177, boot_o_7 P), (179, g179 P), (180, boot_o_7 P), (182, g182 P), (183, g183 P), (184, boot_o_7 P), (186, g186 P), (187, boot_o_7 P), (189, g189 P), (190, g190 P), (191, boot_o_7 P), (194, g194 P), (195, g195 P), (196, boot_o_7 P), (199, g199 P), (200, g200 P), (201, boot_o_7 P), (204, g204 P), (205, g205 P), (206, boot_o_7 P), (209, g209 P), (210, g210 P), (211, boot_o_7 P), (214, g214 P), (215, g215 P), (216, boot_o_7 P), (219, g219 P), (220, g220 P)]
noncomputable def hAlt : List Obj -> List Obj × List Obj
 | [] => ([], [])
 | a :: r => (a :: (hAlt r).2, (hAlt r).1)
noncomputable def hBt : Nat -> List Obj -> BT
 | 0, _ => .nil
 | _ + 1, [] => .nil
 | n + 1, o :: r => .node o (hBt n (hAlt r).1) (hBt n (hAlt r).2)
noncomputable def hEnv : Env := { scope := hp.main.scope, locals := mainNs, globals := mainGlobals, cells := [], code := .ref 13, frame := some 14 }
noncomputable abbrev hC : Code := .body hB hEnv
noncomputable abbrev hQ : Pos := ⟨0, 0, 0, 0⟩
noncomputable def hSt (os : List Obj) (n t : Nat) (o : OsState) : SharedT := { tree := hBt 9 os, n := n, life := {}, gens := #[], drawn := {}, toks := t, os := o }
noncomputable def hHeap (os : List Obj) : Heap := { objs := os.toArray, life := {} }
noncomputable def hSh (os : List Obj) (t : Nat) (o : OsState) : Shared := { heap := hHeap os, gens := #[], drawn := {}, toks := t, os := o }
noncomputable def hL (a n : Nat) : List Stmt := (hB.drop a).take n
theorem segT {s s' : OsState -> SharedT} {r : Flow × Code × Pos} (h : (fun os => PySem.W.Fast.tw10110043849684766642 PySem.W.Fast.tw14364793385576792824 p w n₀ ann b n (s os) t) = fun os => some (r.1, s' os, r.2)) (os : OsState) :
  segRun treeTable p w n₀ ann b n (s os).abs t = some (r.1, (s' os).abs, r.2) := by
 have h := congrFun h os
 rw [<- PySem.W.Fast.te10110043849684766642, <- PySem.W.Fast.te14364793385576792824] at h
 exact segRun_of h
noncomputable abbrev hPc (w : World) (os : OsState) (n : Nat) (f t : List Obj) (fn ft tn tt : Nat) (a k : Nat) (p p' : Pos) : Prop :=
 segRun treeTable hp w 11 (some (.ref 6)) 1 n (hSt f fn ft os).abs (piecesOf (hL a k) hEnv hC p [topFrame hQ]) = some (.next, (hSt t tn tt os).abs, hC, p')
theorem h2 (w : World) (os : OsState) : hPc w os 335 (hsb w.params) (hs2 w.params) 15 187 56 243 0 2 hQ ⟨2, 0, 14, 24⟩ := segT (r := (.next, hC, _)) (by kernel_rfl) os
theorem h4 (w : World) : ∀ os, hPc w os 530 (hs2 w.params) (hs4 w.params) 56 243 129 358 2 2 ⟨2, 0, 14, 24⟩ ⟨81, 0, 86, 43⟩ :=
 byRow2 "special-get-raises" (P := fun w => ∀ os, hPc w os 530 (hs2 w.params) (hs4 w.params) 56 243 129 358 2 2 ⟨2, 0, 14, 24⟩ ⟨81, 0, 86, 43⟩) (fun _ => segT (r := (.next, hC, _)) (by kernel_rfl)) (fun _ => segT (r := (.next, hC, _)) (by kernel_rfl)) w
theorem h59 (w : World) (os : OsState) : hPc w os 496 (hs4 w.params) (hs59 w.params) 129 358 129 468 4 55 ⟨81, 0, 86, 43⟩ ⟨141, 0, 141, 9⟩ := segT (r := (.next, hC, _)) (by kernel_rfl) os
theorem h60 (w : World) : ∀ os, hPc w os 979 (hs59 w.params) (hs60 w.params) 129 468 132 565 59 1 ⟨141, 0, 141, 9⟩ ⟨142, 0, 142, 17⟩ :=
 byRow2 "special-get-raises" (P := fun w => ∀ os, hPc w os 979 (hs59 w.params) (hs60 w.params) 129 468 132 565 59 1 ⟨141, 0, 141, 9⟩ ⟨142, 0, 142, 17⟩) (fun _ => segT (r := (.next, hC, _)) (by kernel_rfl)) (fun _ => segT (r := (.next, hC, _)) (by kernel_rfl)) w
theorem h76 (w : World) (os : OsState) : hPc w os 440 (hs60 w.params) (hs76 w.params) 132 565 221 683 60 16 ⟨142, 0, 142, 17⟩ ⟨272, 0, 283, 105⟩ := segT (r := (.next, hC, _)) (by kernel_rfl) os
theorem hpre (w : World) (os : OsState) : topGo treeTable hp w 11 (some (.ref 6)) 12 { heap := boot_heap w.params, gens := #[], drawn := boot_drawn, toks := boot_toks, os := os } (topStub hp) = some (hSh (hsa w.params) 187 os, ⟨denote treeTable hC, hC, hQ, [topFrame hQ]⟩) := by
 have h : (fun os => PySem.W.Fast.tw15667345088766844465 PySem.W.Fast.tw14364793385576792824 hp w 11 (some (.ref 6)) 12 { heap := boot_heap w.params, gens := #[], drawn := boot_drawn, toks := boot_toks, os := os } (topStub hp)) = fun os => some (hSh (hsa w.params) 187 os, ⟨PySem.W.Fast.tw11892475500146522536 PySem.W.Fast.tw14364793385576792824 hC, hC, hQ, [topFrame hQ]⟩) := by kernel_rfl
 rw [<- PySem.W.Fast.te15667345088766844465, <- PySem.W.Fast.te14364793385576792824, <- PySem.W.Fast.te11892475500146522536] at h
 exact congrFun h os
theorem hblk (w : World) (os : OsState) : segRun treeTable hp w 11 (some (.ref 6)) 1 1 (hSh (hsa w.params) 187 os) (blockOf hB hEnv hC hQ [topFrame hQ]) = some (.next, (hSt (hsb w.params) 15 187 os).abs, hC, hQ) := by
 have h : (fun os => PySem.W.Fast.tw14374325043358763698 PySem.W.Fast.tw14364793385576792824 hp w 11 (some (.ref 6)) 1 1 (hSh (hsa w.params) 187 os) (blockOf hB hEnv hC hQ [topFrame hQ])) = fun os => some (.next, (hSt (hsb w.params) 15 187 os).abs, hC, hQ) := by kernel_rfl
 rw [<- PySem.W.Fast.te14374325043358763698, <- PySem.W.Fast.te14364793385576792824] at h
 exact congrFun h os
theorem hfin (w : World) (os : OsState) : topRun treeTable hp w 11 (some (.ref 6)) 2 (hSt (hs76 w.params) 221 683 os).abs ⟨doneF .next, hC, ⟨272, 0, 283, 105⟩, [topFrame hQ]⟩ = some (hSh (hs76 w.params) 683 os) := by
 have h : (fun os => PySem.W.Fast.tw14082659384304107361 PySem.W.Fast.tw14364793385576792824 hp w 11 (some (.ref 6)) 2 (hSt (hs76 w.params) 221 683 os).abs ⟨doneF .next, hC, ⟨272, 0, 283, 105⟩, [topFrame hQ]⟩) = fun os => some (hSh (hs76 w.params) 683 os) := by kernel_rfl
 rw [<- PySem.W.Fast.te14082659384304107361, <- PySem.W.Fast.te14364793385576792824] at h
 exact congrFun h os
theorem hsplit : hL 0 2 ++ (hL 2 2 ++ (hL 4 55 ++ (hL 59 1 ++ (hL 60 16 ++ [])))) = hB := by kernel_rfl
theorem hrun (w : World) (os : OsState) : topRun treeTable hp w 11 (some (.ref 6)) (12 + (1 + (335 + (530 + (496 + (979 + (440 + 2))))))) { heap := boot_heap w.params, gens := #[], drawn := boot_drawn, toks := boot_toks, os := os } (topStub hp) = some (hSh (hs76 w.params) 683 os) := by
 refine go_top (hpre w os) (piece_block (hblk w os) ?_)
 rw [<- hsplit]
 exact piece_app (h2 w os) (piece_app (h4 w os) (piece_app (h59 w os) (piece_app (h60 w os) (piece_app (h76 w os) (piece_nil (hfin w os))))))
noncomputable def hV : Program := view hp [1, 2, 3, 5, 6, 7, 8, 9, 10, 11, 12, 13, 14, 15, 16, 17, 18, 19, 20, 21, 22, 23, 24, 25, 26, 27, 28, 29, 30, 31, 32, 33, 34, 35, 36, 37, 38, 39, 40, 41, 42, 43, 44, 45, 46, 47, 48, 49, 50, 51, 52, 53, 54, 55, 56, 57, 58, 59, 60, 61, 62, 64, 65, 66, 67, 68, 69, 70, 71, 72, 73, 74, 75]
noncomputable def hLo : List Str := [ofString "Whitespace", ofString "EXACT_TOKEN_TYPES"]
noncomputable abbrev hSf (w : World) (os : OsState) : Shared := hSh (hs76 w.params) 683 os
theorem hsize (w : World) : ((boot_heap w.params).isNs mainGlobals && (#[] : Array GenState).size == 0, (boot_heap w.params).objs.size, (boot_heap w.params).nsMap mainGlobals "__annotations__") = (true, 11, some (.ref 6)) := by kernel_rfl
theorem hopen (w : World) : (fencedOpening treeTable hp w 6000).map (fun s => (s.heap, s.gens, s.drawn, s.toks)) = some (boot_heap w.params, Array.mk [], boot_drawn, boot_toks) :=
 boot_open (by kernel_rfl) (by decide) (fun s => by kernel_rfl) w
theorem hlk1 (w : World) : (fun os => staticsOk (importedModules hp.main.body) (boot_heap w.params) (hSf w os).heap && namesBound hp (hSf w os).heap && gensDone (hSf w os) && laidKept (boot_heap w.params) (hSf w os).heap) = fun _ => true := by kernel_rfl
noncomputable def hAs : List Addr := [2, 3, 15, 22, 24, 25, 27, 28, 29, 31, 32, 34, 35, 36, 38, 39, 41, 42, 43, 45, 46, 48, 49, 50, 51, 52, 53, 66, 68, 69, 71, 72, 73, 75, 76, 78, 79, 80, 82, 83, 85, 86, 87, 89, 90, 92, 93, 94, 96, 97, 99, 100, 101, 103, 104, 106, 107, 108, 110, 111, 113, 114, 115, 116, 117, 118, 119, 122, 124, 125, 127, 128, 129, 132, 134, 135, 137, 138, 139, 141, 142, 144, 145, 146, 148, 149, 151, 152, 153, 155, 156, 158, 159, 160, 163, 164, 165, 167, 168, 170, 171, 172, 175, 176, 177, 179, 180, 182, 183, 184, 186, 187, 189, 190, 191, 194, 195, 196, 199, 200, 201, 204, 205, 206, 209, 210, 211, 214, 215, 216, 219, 220]
theorem hKA (P : Params) : hAs = (hK P).map (·.1) := by kernel_rfl
noncomputable def hH : Hook := kHook hK hAs hKA
theorem hlk3 (w : World) : (fun os => hH.obs (hSf w os)) = fun _ => hH.val w := by kernel_rfl
noncomputable def hX (s : Shared) : Bool := xlAt hV [] s && recOk PySem.Challenge.rw_mj0223_01.row.records s
theorem hlk2 (w : World) : (fun os => PySem.W.Fast.tw4187177175401517315 hV hLo (importedModules hp.main.body) hX true (hSf w os)) = fun _ => openGood hV hLo := by kernel_rfl
theorem hlook (w : World) : (fun os => ((staticsOk (importedModules hp.main.body) (boot_heap w.params) (hHeap (hs76 w.params)) && namesBound hp (hHeap (hs76 w.params)) && gensDone (hSf w os) && laidKept (boot_heap w.params) (hHeap (hs76 w.params))), openSeen hV hLo (importedModules hp.main.body) hX true (hSf w os), hH.obs (hSf w os))) = fun _ => (true, openGood hV hLo, hH.val w) := by
 have h2 := hlk2 w
 rw [<- PySem.W.Fast.te4187177175401517315] at h2
 funext os
 exact looks_pair (congrFun (hlk1 w) os) (looks_pair (congrFun h2 os) (congrFun (hlk3 w) os))
theorem hleft : LeftO hp hV hLo hX hH.obs hH.val 6000 true :=
 LeftO.of_pieces (H₁ := fun P => hHeap (hs76 P)) hopen hsize hrun (by decide) hlook
theorem hsaid : PySem.Challenge.rw_mj0223_01.wellSaid = true := by
 rw [PySem.W.Fast.te9446332074065402090]
 kernel_rfl
noncomputable def hDef : DefRec := match hAt 75 with
 | .FunctionDef n ps b _ _ _ sc _ _ p => { name := n, params := ps, body := b, scope := sc, pos := p }
 | _ => { name := default, params := default, body := [], scope := default, pos := default }
theorem hdef1 : defOf hV PySem.Challenge.rw_mj0223_01.row.name = some (hDef, []) := by kernel_rfl
theorem hdef2 : hp.theDef PySem.Challenge.rw_mj0223_01.row.name = some (hDef.params, hDef.body, hDef.scope) := by kernel_rfl
theorem hdef3 : kwWritten? hDef.params.kwonlyargs hDef.params.kw_defaults = some [] := by kernel_rfl
theorem hok : (chainsOk hV && opensWell hp && (frees PySem.Challenge.rw_mj0223_01.row.toRowW && PySem.Challenge.rw_mj0223_01.row.within.isEmpty)) = true := by kernel_rfl
theorem hbare : hp.bare := ⟨rfl, rfl, rfl, rfl, rfl, by decide +kernel⟩
theorem hprom : PySem.Challenge.rw_mj0223_01.row.toRowW.promised := ⟨[.list []], by kernel_rfl, by kernel_rfl⟩
noncomputable abbrev hWalk : Prop := WalkO hV hLo (XL hV []) hH.says PySem.Challenge.rw_mj0223_01.row.toRowW hDef [] fun f vs => PySem.call f vs
theorem hd (call : hWalk) : PySem.Challenge.rw_mj0223_01.Holds :=
 holds_law hsaid fun k1 => holds_open (Xt := hX) (Yf := hH.obs) (Ya := hH.val) (N := 6000) hleft hH.of hH.keeps (fun s e => xl_of s (Bool.and_eq_true_iff.mp e).1) XL.keeps hdef1 hdef2 hdef3 (fun s e => recFacts_of (Bool.and_eq_true_iff.mp e).2) (by rfl) k1 hok hbare hprom call
theorem xA  {G : Prop} (h : P1 /\ P2 ) (k : P1 -> P2  -> G) : G := by
 obtain ⟨h1, hl⟩ := h
 exact k h1 hl
theorem xAA  {G : Prop} (h : P1 /\ P2 /\ P3 ) (k : P1 -> P2 -> P3  -> G) : G := by
 obtain ⟨h1, h2, hl⟩ := h
 exact k h1 h2 hl
theorem xAAA  {G : Prop} (h : P1 /\ P2 /\ P3 /\ P4 ) (k : P1 -> P2 -> P3 -> P4  -> G) : G := by
 obtain ⟨h1, h2, h3, hl⟩ := h
 exact k h1 h2 h3 hl
theorem xAAAA  {G : Prop} (h : P1 /\ P2 /\ P3 /\ P4 /\ P5 ) (k : P1 -> P2 -> P3 -> P4 -> P5  -> G) : G := by
 obtain ⟨h1, h2, h3, h4, hl⟩ := h
 exact k h1 h2 h3 h4 hl
theorem xAAE {P3 : α1 -> Prop} {G : Prop} (h : P1 /\ P2 /\ ∃ x1, P3 x1) (k : P1 -> P2 -> ∀ x1, P3 x1 -> G) : G := by
 obtain ⟨h1, h2, x1, hl⟩ := h
 exact k h1 h2 x1 hl
theorem xAAEEA {P3 : α1 -> α2 -> Prop} {P4 : α1 -> α2 -> Prop} {G : Prop} (h : P1 /\ P2 /\ ∃ x1, ∃ x2, P3 x1 x2 /\ P4 x1 x2) (k : P1 -> P2 -> ∀ x1, ∀ x2, P3 x1 x2 -> P4 x1 x2 -> G) : G := by
 obtain ⟨h1, h2, x1, x2, h3, hl⟩ := h
 exact k h1 h2 x1 x2 h3 hl
theorem xAEA {P2 : α1 -> Prop} {P3 : α1 -> Prop} {G : Prop} (h : P1 /\ ∃ x1, P2 x1 /\ P3 x1) (k : P1 -> ∀ x1, P2 x1 -> P3 x1 -> G) : G := by
 obtain ⟨h1, x1, h2, hl⟩ := h
 exact k h1 x1 h2 hl
theorem xAEAA {P2 : α1 -> Prop} {P3 : α1 -> Prop} {P4 : α1 -> Prop} {G : Prop} (h : P1 /\ ∃ x1, P2 x1 /\ P3 x1 /\ P4 x1) (k : P1 -> ∀ x1, P2 x1 -> P3 x1 -> P4 x1 -> G) : G := by
 obtain ⟨h1, x1, h2, h3, hl⟩ := h
 exact k h1 x1 h2 h3 hl
theorem xE {P1 : α1 -> Prop} {G : Prop} (h : ∃ x1, P1 x1) (k : ∀ x1, P1 x1 -> G) : G := by
 obtain ⟨x1, hl⟩ := h
 exact k x1 hl
theorem xEA {P1 : α1 -> Prop} {P2 : α1 -> Prop} {G : Prop} (h : ∃ x1, P1 x1 /\ P2 x1) (k : ∀ x1, P1 x1 -> P2 x1 -> G) : G := by
 obtain ⟨x1, h1, hl⟩ := h
 exact k x1 h1 hl
theorem xEAA {P1 : α1 -> Prop} {P2 : α1 -> Prop} {P3 : α1 -> Prop} {G : Prop} (h : ∃ x1, P1 x1 /\ P2 x1 /\ P3 x1) (k : ∀ x1, P1 x1 -> P2 x1 -> P3 x1 -> G) : G := by
 obtain ⟨x1, h1, h2, hl⟩ := h
 exact k x1 h1 h2 hl
theorem xEAAA {P1 : α1 -> Prop} {P2 : α1 -> Prop} {P3 : α1 -> Prop} {P4 : α1 -> Prop} {G : Prop} (h : ∃ x1, P1 x1 /\ P2 x1 /\ P3 x1 /\ P4 x1) (k : ∀ x1, P1 x1 -> P2 x1 -> P3 x1 -> P4 x1 -> G) : G := by
 obtain ⟨x1, h1, h2, h3, hl⟩ := h
 exact k x1 h1 h2 h3 hl
theorem xEE {P1 : α1 -> α2 -> Prop} {G : Prop} (h : ∃ x1, ∃ x2, P1 x1 x2) (k : ∀ x1, ∀ x2, P1 x1 x2 -> G) : G := by
 obtain ⟨x1, x2, hl⟩ := h
 exact k x1 x2 hl
theorem xEEA {P1 : α1 -> α2 -> Prop} {P2 : α1 -> α2 -> Prop} {G : Prop} (h : ∃ x1, ∃ x2, P1 x1 x2 /\ P2 x1 x2) (k : ∀ x1, ∀ x2, P1 x1 x2 -> P2 x1 x2 -> G) : G := by
 obtain ⟨x1, x2, h1, hl⟩ := h
 exact k x1 x2 h1 hl
theorem xEEAA {P1 : α1 -> α2 -> Prop} {P2 : α1 -> α2 -> Prop} {P3 : α1 -> α2 -> Prop} {G : Prop} (h : ∃ x1, ∃ x2, P1 x1 x2 /\ P2 x1 x2 /\ P3 x1 x2) (k : ∀ x1, ∀ x2, P1 x1 x2 -> P2 x1 x2 -> P3 x1 x2 -> G) : G := by
 obtain ⟨x1, x2, h1, h2, hl⟩ := h
 exact k x1 x2 h1 h2 hl
theorem xEEAAA {P1 : α1 -> α2 -> Prop} {P2 : α1 -> α2 -> Prop} {P3 : α1 -> α2 -> Prop} {P4 : α1 -> α2 -> Prop} {G : Prop} (h : ∃ x1, ∃ x2, P1 x1 x2 /\ P2 x1 x2 /\ P3 x1 x2 /\ P4 x1 x2) (k : ∀ x1, ∀ x2, P1 x1 x2 -> P2 x1 x2 -> P3 x1 x2 -> P4 x1 x2 -> G) : G := by
 obtain ⟨x1, x2, h1, h2, h3, hl⟩ := h
 exact k x1 x2 h1 h2 h3 hl
theorem xEEE {P1 : α1 -> α2 -> α3 -> Prop} {G : Prop} (h : ∃ x1, ∃ x2, ∃ x3, P1 x1 x2 x3) (k : ∀ x1, ∀ x2, ∀ x3, P1 x1 x2 x3 -> G) : G := by
 obtain ⟨x1, x2, x3, hl⟩ := h
 exact k x1 x2 x3 hl
theorem xEEEA {P1 : α1 -> α2 -> α3 -> Prop} {P2 : α1 -> α2 -> α3 -> Prop} {G : Prop} (h : ∃ x1, ∃ x2, ∃ x3, P1 x1 x2 x3 /\ P2 x1 x2 x3) (k : ∀ x1, ∀ x2, ∀ x3, P1 x1 x2 x3 -> P2 x1 x2 x3 -> G) : G := by
 obtain ⟨x1, x2, x3, h1, hl⟩ := h
 exact k x1 x2 x3 h1 hl
theorem xEEEAA {P1 : α1 -> α2 -> α3 -> Prop} {P2 : α1 -> α2 -> α3 -> Prop} {P3 : α1 -> α2 -> α3 -> Prop} {G : Prop} (h : ∃ x1, ∃ x2, ∃ x3, P1 x1 x2 x3 /\ P2 x1 x2 x3 /\ P3 x1 x2 x3) (k : ∀ x1, ∀ x2, ∀ x3, P1 x1 x2 x3 -> P2 x1 x2 x3 -> P3 x1 x2 x3 -> G) : G := by
 obtain ⟨x1, x2, x3, h1, h2, hl⟩ := h
 exact k x1 x2 x3 h1 h2 hl
theorem xEEEAAA {P1 : α1 -> α2 -> α3 -> Prop} {P2 : α1 -> α2 -> α3 -> Prop} {P3 : α1 -> α2 -> α3 -> Prop} {P4 : α1 -> α2 -> α3 -> Prop} {G : Prop} (h : ∃ x1, ∃ x2, ∃ x3, P1 x1 x2 x3 /\ P2 x1 x2 x3 /\ P3 x1 x2 x3 /\ P4 x1 x2 x3) (k : ∀ x1, ∀ x2, ∀ x3, P1 x1 x2 x3 -> P2 x1 x2 x3 -> P3 x1 x2 x3 -> P4 x1 x2 x3 -> G) : G := by
 obtain ⟨x1, x2, x3, h1, h2, h3, hl⟩ := h
 exact k x1 x2 x3 h1 h2 h3 hl
theorem xEEEAAAA {P1 : α1 -> α2 -> α3 -> Prop} {P2 : α1 -> α2 -> α3 -> Prop} {P3 : α1 -> α2 -> α3 -> Prop} {P4 : α1 -> α2 -> α3 -> Prop} {P5 : α1 -> α2 -> α3 -> Prop} {G : Prop} (h : ∃ x1, ∃ x2, ∃ x3, P1 x1 x2 x3 /\ P2 x1 x2 x3 /\ P3 x1 x2 x3 /\ P4 x1 x2 x3 /\ P5 x1 x2 x3) (k : ∀ x1, ∀ x2, ∀ x3, P1 x1 x2 x3 -> P2 x1 x2 x3 -> P3 x1 x2 x3 -> P4 x1 x2 x3 -> P5 x1 x2 x3 -> G) : G := by
 obtain ⟨x1, x2, x3, h1, h2, h3, h4, hl⟩ := h
 exact k x1 x2 x3 h1 h2 h3 h4 hl
theorem xEEEAAAAA {P1 : α1 -> α2 -> α3 -> Prop} {P2 : α1 -> α2 -> α3 -> Prop} {P3 : α1 -> α2 -> α3 -> Prop} {P4 : α1 -> α2 -> α3 -> Prop} {P5 : α1 -> α2 -> α3 -> Prop} {P6 : α1 -> α2 -> α3 -> Prop} {G : Prop} (h : ∃ x1, ∃ x2, ∃ x3, P1 x1 x2 x3 /\ P2 x1 x2 x3 /\ P3 x1 x2 x3 /\ P4 x1 x2 x3 /\ P5 x1 x2 x3 /\ P6 x1 x2 x3) (k : ∀ x1, ∀ x2, ∀ x3, P1 x1 x2 x3 -> P2 x1 x2 x3 -> P3 x1 x2 x3 -> P4 x1 x2 x3 -> P5 x1 x2 x3 -> P6 x1 x2 x3 -> G) : G := by
 obtain ⟨x1, x2, x3, h1, h2, h3, h4, h5, hl⟩ := h
 exact k x1 x2 x3 h1 h2 h3 h4 h5 hl
theorem xEEEAAAAAA {P1 : α1 -> α2 -> α3 -> Prop} {P2 : α1 -> α2 -> α3 -> Prop} {P3 : α1 -> α2 -> α3 -> Prop} {P4 : α1 -> α2 -> α3 -> Prop} {P5 : α1 -> α2 -> α3 -> Prop} {P6 : α1 -> α2 -> α3 -> Prop} {P7 : α1 -> α2 -> α3 -> Prop} {G : Prop} (h : ∃ x1, ∃ x2, ∃ x3, P1 x1 x2 x3 /\ P2 x1 x2 x3 /\ P3 x1 x2 x3 /\ P4 x1 x2 x3 /\ P5 x1 x2 x3 /\ P6 x1 x2 x3 /\ P7 x1 x2 x3) (k : ∀ x1, ∀ x2, ∀ x3, P1 x1 x2 x3 -> P2 x1 x2 x3 -> P3 x1 x2 x3 -> P4 x1 x2 x3 -> P5 x1 x2 x3 -> P6 x1 x2 x3 -> P7 x1 x2 x3 -> G) : G := by
 obtain ⟨x1, x2, x3, h1, h2, h3, h4, h5, h6, hl⟩ := h
 exact k x1 x2 x3 h1 h2 h3 h4 h5 h6 hl
theorem xEEEAAAAAAA {P1 : α1 -> α2 -> α3 -> Prop} {P2 : α1 -> α2 -> α3 -> Prop} {P3 : α1 -> α2 -> α3 -> Prop} {P4 : α1 -> α2 -> α3 -> Prop} {P5 : α1 -> α2 -> α3 -> Prop} {P6 : α1 -> α2 -> α3 -> Prop} {P7 : α1 -> α2 -> α3 -> Prop} {P8 : α1 -> α2 -> α3 -> Prop} {G : Prop} (h : ∃ x1, ∃ x2, ∃ x3, P1 x1 x2 x3 /\ P2 x1 x2 x3 /\ P3 x1 x2 x3 /\ P4 x1 x2 x3 /\ P5 x1 x2 x3 /\ P6 x1 x2 x3 /\ P7 x1 x2 x3 /\ P8 x1 x2 x3) (k : ∀ x1, ∀ x2, ∀ x3, P1 x1 x2 x3 -> P2 x1 x2 x3 -> P3 x1 x2 x3 -> P4 x1 x2 x3 -> P5 x1 x2 x3 -> P6 x1 x2 x3 -> P7 x1 x2 x3 -> P8 x1 x2 x3 -> G) : G := by
 obtain ⟨x1, x2, x3, h1, h2, h3, h4, h5, h6, h7, hl⟩ := h
 exact k x1 x2 x3 h1 h2 h3 h4 h5 h6 h7 hl
theorem xEEEEA {P1 : α1 -> α2 -> α3 -> α4 -> Prop} {P2 : α1 -> α2 -> α3 -> α4 -> Prop} {G : Prop} (h : ∃ x1, ∃ x2, ∃ x3, ∃ x4, P1 x1 x2 x3 x4 /\ P2 x1 x2 x3 x4) (k : ∀ x1, ∀ x2, ∀ x3, ∀ x4, P1 x1 x2 x3 x4 -> P2 x1 x2 x3 x4 -> G) : G := by
 obtain ⟨x1, x2, x3, x4, h1, hl⟩ := h
 exact k x1 x2 x3 x4 h1 hl
theorem xEEEEAA {P1 : α1 -> α2 -> α3 -> α4 -> Prop} {P2 : α1 -> α2 -> α3 -> α4 -> Prop} {P3 : α1 -> α2 -> α3 -> α4 -> Prop} {G : Prop} (h : ∃ x1, ∃ x2, ∃ x3, ∃ x4, P1 x1 x2 x3 x4 /\ P2 x1 x2 x3 x4 /\ P3 x1 x2 x3 x4) (k : ∀ x1, ∀ x2, ∀ x3, ∀ x4, P1 x1 x2 x3 x4 -> P2 x1 x2 x3 x4 -> P3 x1 x2 x3 x4 -> G) : G := by
 obtain ⟨x1, x2, x3, x4, h1, h2, hl⟩ := h
 exact k x1 x2 x3 x4 h1 h2 hl
theorem xEEEEAAAA {P1 : α1 -> α2 -> α3 -> α4 -> Prop} {P2 : α1 -> α2 -> α3 -> α4 -> Prop} {P3 : α1 -> α2 -> α3 -> α4 -> Prop} {P4 : α1 -> α2 -> α3 -> α4 -> Prop} {P5 : α1 -> α2 -> α3 -> α4 -> Prop} {G : Prop} (h : ∃ x1, ∃ x2, ∃ x3, ∃ x4, P1 x1 x2 x3 x4 /\ P2 x1 x2 x3 x4 /\ P3 x1 x2 x3 x4 /\ P4 x1 x2 x3 x4 /\ P5 x1 x2 x3 x4) (k : ∀ x1, ∀ x2, ∀ x3, ∀ x4, P1 x1 x2 x3 x4 -> P2 x1 x2 x3 x4 -> P3 x1 x2 x3 x4 -> P4 x1 x2 x3 x4 -> P5 x1 x2 x3 x4 -> G) : G := by
 obtain ⟨x1, x2, x3, x4, h1, h2, h3, h4, hl⟩ := h
 exact k x1 x2 x3 x4 h1 h2 h3 h4 hl
theorem xEEEEAAAAA {P1 : α1 -> α2 -> α3 -> α4 -> Prop} {P2 : α1 -> α2 -> α3 -> α4 -> Prop} {P3 : α1 -> α2 -> α3 -> α4 -> Prop} {P4 : α1 -> α2 -> α3 -> α4 -> Prop} {P5 : α1 -> α2 -> α3 -> α4 -> Prop} {P6 : α1 -> α2 -> α3 -> α4 -> Prop} {G : Prop} (h : ∃ x1, ∃ x2, ∃ x3, ∃ x4, P1 x1 x2 x3 x4 /\ P2 x1 x2 x3 x4 /\ P3 x1 x2 x3 x4 /\ P4 x1 x2 x3 x4 /\ P5 x1 x2 x3 x4 /\ P6 x1 x2 x3 x4) (k : ∀ x1, ∀ x2, ∀ x3, ∀ x4, P1 x1 x2 x3 x4 -> P2 x1 x2 x3 x4 -> P3 x1 x2 x3 x4 -> P4 x1 x2 x3 x4 -> P5 x1 x2 x3 x4 -> P6 x1 x2 x3 x4 -> G) : G := by
 obtain ⟨x1, x2, x3, x4, h1, h2, h3, h4, h5, hl⟩ := h
 exact k x1 x2 x3 x4 h1 h2 h3 h4 h5 hl
theorem xEEEEEAAAA {P1 : α1 -> α2 -> α3 -> α4 -> α5 -> Prop} {P2 : α1 -> α2 -> α3 -> α4 -> α5 -> Prop} {P3 : α1 -> α2 -> α3 -> α4 -> α5 -> Prop} {P4 : α1 -> α2 -> α3 -> α4 -> α5 -> Prop} {P5 : α1 -> α2 -> α3 -> α4 -> α5 -> Prop} {G : Prop} (h : ∃ x1, ∃ x2, ∃ x3, ∃ x4, ∃ x5, P1 x1 x2 x3 x4 x5 /\ P2 x1 x2 x3 x4 x5 /\ P3 x1 x2 x3 x4 x5 /\ P4 x1 x2 x3 x4 x5 /\ P5 x1 x2 x3 x4 x5) (k : ∀ x1, ∀ x2, ∀ x3, ∀ x4, ∀ x5, P1 x1 x2 x3 x4 x5 -> P2 x1 x2 x3 x4 x5 -> P3 x1 x2 x3 x4 x5 -> P4 x1 x2 x3 x4 x5 -> P5 x1 x2 x3 x4 x5 -> G) : G := by
 obtain ⟨x1, x2, x3, x4, x5, h1, h2, h3, h4, hl⟩ := h
 exact k x1 x2 x3 x4 x5 h1 h2 h3 h4 hl
theorem xEEEEEEEEEEEEEEE {α7 : Sort _} {α8 : Sort _} {α9 : Sort _} {α10 : Sort _} {α11 : Sort _} {α12 : Sort _} {α13 : Sort _} {α14 : Sort _} {α15 : Sort _} {P1 : α1 -> α2 -> α3 -> α4 -> α5 -> α6 -> α7 -> α8 -> α9 -> α10 -> α11 -> α12 -> α13 -> α14 -> α15 -> Prop} {G : Prop} (h : ∃ x1, ∃ x2, ∃ x3, ∃ x4, ∃ x5, ∃ x6, ∃ x7, ∃ x8, ∃ x9, ∃ x10, ∃ x11, ∃ x12, ∃ x13, ∃ x14, ∃ x15, P1 x1 x2 x3 x4 x5 x6 x7 x8 x9 x10 x11 x12 x13 x14 x15) (k : ∀ x1, ∀ x2, ∀ x3, ∀ x4, ∀ x5, ∀ x6, ∀ x7, ∀ x8, ∀ x9, ∀ x10, ∀ x11, ∀ x12, ∀ x13, ∀ x14, ∀ x15, P1 x1 x2 x3 x4 x5 x6 x7 x8 x9 x10 x11 x12 x13 x14 x15 -> G) : G := by
 obtain ⟨x1, x2, x3, x4, x5, x6, x7, x8, x9, x10, x11, x12, x13, x14, x15, hl⟩ := h
 exact k x1 x2 x3 x4 x5 x6 x7 x8 x9 x10 x11 x12 x13 x14 x15 hl
theorem an2 {C : Prop} (h : (a1 && a2) = true) (k : a1 = true -> a2 = true -> C) : C := k (Bool.and_eq_true_iff.mp h).1 (Bool.and_eq_true_iff.mp h).2
theorem an3 {C : Prop} (h : (a1 && a2 && a3) = true) (k : a1 = true -> a2 = true -> a3 = true -> C) : C :=
 an2 (Bool.and_eq_true_iff.mp h).1 fun h1 h2 => k h1 h2 (Bool.and_eq_true_iff.mp h).2
theorem an4 {C : Prop} (h : (a1 && a2 && a3 && a4) = true) (k : a1 = true -> a2 = true -> a3 = true -> a4 = true -> C) : C :=
 an3 (Bool.and_eq_true_iff.mp h).1 fun h1 h2 h3 => k h1 h2 h3 (Bool.and_eq_true_iff.mp h).2
theorem an5 {C : Prop} (h : (a1 && a2 && a3 && a4 && a5) = true) (k : a1 = true -> a2 = true -> a3 = true -> a4 = true -> a5 = true -> C) : C :=
 an4 (Bool.and_eq_true_iff.mp h).1 fun h1 h2 h3 h4 => k h1 h2 h3 h4 (Bool.and_eq_true_iff.mp h).2
theorem an6 {C : Prop} (h : (a1 && a2 && a3 && a4 && a5 && a6) = true) (k : a1 = true -> a2 = true -> a3 = true -> a4 = true -> a5 = true -> a6 = true -> C) : C :=
 an5 (Bool.and_eq_true_iff.mp h).1 fun h1 h2 h3 h4 h5 => k h1 h2 h3 h4 h5 (Bool.and_eq_true_iff.mp h).2
theorem an7 {C : Prop} (h : (a1 && a2 && a3 && a4 && a5 && a6 && a7) = true) (k : a1 = true -> a2 = true -> a3 = true -> a4 = true -> a5 = true -> a6 = true -> a7 = true -> C) : C :=
 an6 (Bool.and_eq_true_iff.mp h).1 fun h1 h2 h3 h4 h5 h6 => k h1 h2 h3 h4 h5 h6 (Bool.and_eq_true_iff.mp h).2
theorem an8 {a1 a2 a3 a4 a5 a6 a7 a8 : Bool} {C : Prop} (h : (a1 && a2 && a3 && a4 && a5 && a6 && a7 && a8) = true) (k : a1 = true -> a2 = true -> a3 = true -> a4 = true -> a5 = true -> a6 = true -> a7 = true -> a8 = true -> C) : C :=
 an7 (Bool.and_eq_true_iff.mp h).1 fun h1 h2 h3 h4 h5 h6 h7 => k h1 h2 h3 h4 h5 h6 h7 (Bool.and_eq_true_iff.mp h).2
theorem an9 {C : Prop} (h : (a1 && a2 && a3 && a4 && a5 && a6 && a7 && a8 && a9) = true) (k : a1 = true -> a2 = true -> a3 = true -> a4 = true -> a5 = true -> a6 = true -> a7 = true -> a8 = true -> a9 = true -> C) : C :=
 an8 (Bool.and_eq_true_iff.mp h).1 fun h1 h2 h3 h4 h5 h6 h7 h8 => k h1 h2 h3 h4 h5 h6 h7 h8 (Bool.and_eq_true_iff.mp h).2
theorem an10 {C : Prop} (h : (a1 && a2 && a3 && a4 && a5 && a6 && a7 && a8 && a9 && a10) = true) (k : a1 = true -> a2 = true -> a3 = true -> a4 = true -> a5 = true -> a6 = true -> a7 = true -> a8 = true -> a9 = true -> a10 = true -> C) : C :=
 an9 (Bool.and_eq_true_iff.mp h).1 fun h1 h2 h3 h4 h5 h6 h7 h8 h9 => k h1 h2 h3 h4 h5 h6 h7 h8 h9 (Bool.and_eq_true_iff.mp h).2
theorem an11 {C : Prop} (h : (a1 && a2 && a3 && a4 && a5 && a6 && a7 && a8 && a9 && a10 && a11) = true) (k : a1 = true -> a2 = true -> a3 = true -> a4 = true -> a5 = true -> a6 = true -> a7 = true -> a8 = true -> a9 = true -> a10 = true -> a11 = true -> C) : C :=
 an10 (Bool.and_eq_true_iff.mp h).1 fun h1 h2 h3 h4 h5 h6 h7 h8 h9 h10 => k h1 h2 h3 h4 h5 h6 h7 h8 h9 h10 (Bool.and_eq_true_iff.mp h).2
theorem an12 {C : Prop} (h : (a1 && a2 && a3 && a4 && a5 && a6 && a7 && a8 && a9 && a10 && a11 && a12) = true) (k : a1 = true -> a2 = true -> a3 = true -> a4 = true -> a5 = true -> a6 = true -> a7 = true -> a8 = true -> a9 = true -> a10 = true -> a11 = true -> a12 = true -> C) : C :=
 an11 (Bool.and_eq_true_iff.mp h).1 fun h1 h2 h3 h4 h5 h6 h7 h8 h9 h10 h11 => k h1 h2 h3 h4 h5 h6 h7 h8 h9 h10 h11 (Bool.and_eq_true_iff.mp h).2
theorem an13 {C : Prop} (h : (a1 && a2 && a3 && a4 && a5 && a6 && a7 && a8 && a9 && a10 && a11 && a12 && a13) = true) (k : a1 = true -> a2 = true -> a3 = true -> a4 = true -> a5 = true -> a6 = true -> a7 = true -> a8 = true -> a9 = true -> a10 = true -> a11 = true -> a12 = true -> a13 = true -> C) : C :=
 an12 (Bool.and_eq_true_iff.mp h).1 fun h1 h2 h3 h4 h5 h6 h7 h8 h9 h10 h11 h12 => k h1 h2 h3 h4 h5 h6 h7 h8 h9 h10 h11 h12 (Bool.and_eq_true_iff.mp h).2
theorem an14 {C : Prop} (h : (a1 && a2 && a3 && a4 && a5 && a6 && a7 && a8 && a9 && a10 && a11 && a12 && a13 && a14) = true) (k : a1 = true -> a2 = true -> a3 = true -> a4 = true -> a5 = true -> a6 = true -> a7 = true -> a8 = true -> a9 = true -> a10 = true -> a11 = true -> a12 = true -> a13 = true -> a14 = true -> C) : C :=
 an13 (Bool.and_eq_true_iff.mp h).1 fun h1 h2 h3 h4 h5 h6 h7 h8 h9 h10 h11 h12 h13 => k h1 h2 h3 h4 h5 h6 h7 h8 h9 h10 h11 h12 h13 (Bool.and_eq_true_iff.mp h).2
theorem an8p {P1 P2 P3 P4 P5 P6 P7 P8 G : Prop} (h : P1 /\ P2 /\ P3 /\ P4 /\ P5 /\ P6 /\ P7 /\ P8) (k : P1 -> P2 -> P3 -> P4 -> P5 -> P6 -> P7 -> P8 -> G) : G :=
 k h.1 h.2.1 h.2.2.1 h.2.2.2.1 h.2.2.2.2.1 h.2.2.2.2.2.1 h.2.2.2.2.2.2.1 h.2.2.2.2.2.2.2
theorem xAEEAAA {P2 P3 P4 P5 : α1 -> α2 -> Prop} {G : Prop} (h : P1 /\ ∃ x1, ∃ x2, P2 x1 x2 /\ P3 x1 x2 /\ P4 x1 x2 /\ P5 x1 x2) (k : P1 -> ∀ x1, ∀ x2, P2 x1 x2 -> P3 x1 x2 -> P4 x1 x2 -> P5 x1 x2 -> G) : G :=
 h.2.elim fun x1 h2 => h2.elim fun x2 h2 => k h.1 x1 x2 h2.1 h2.2.1 h2.2.2.1 h2.2.2.2
theorem xE5A7 {P1 P2 P3 P4 P5 P6 P7 P8 : α1 -> α2 -> α3 -> α4 -> α5 -> Prop} {G : Prop}
  (h : ∃ x1, ∃ x2, ∃ x3, ∃ x4, ∃ x5, P1 x1 x2 x3 x4 x5 /\ P2 x1 x2 x3 x4 x5 /\ P3 x1 x2 x3 x4 x5 /\ P4 x1 x2 x3 x4 x5 /\ P5 x1 x2 x3 x4 x5 /\ P6 x1 x2 x3 x4 x5 /\ P7 x1 x2 x3 x4 x5 /\ P8 x1 x2 x3 x4 x5)
  (k : ∀ x1, ∀ x2, ∀ x3, ∀ x4, ∀ x5, P1 x1 x2 x3 x4 x5 -> P2 x1 x2 x3 x4 x5 -> P3 x1 x2 x3 x4 x5 -> P4 x1 x2 x3 x4 x5 -> P5 x1 x2 x3 x4 x5 -> P6 x1 x2 x3 x4 x5 -> P7 x1 x2 x3 x4 x5 -> P8 x1 x2 x3 x4 x5 -> G) : G :=
 h.elim fun x1 h => h.elim fun x2 h => h.elim fun x3 h => h.elim fun x4 h => h.elim fun x5 h => an8p h (k x1 x2 x3 x4 x5)
theorem clash {C : Prop} (h : x = none) (h' : x = some a) : C := nomatch h.symm.trans h'
@[elab_as_elim] theorem rwG {C : α -> Prop} (h : a = b) (k : C b) : C a := h ▸ k
theorem xAq1L  {f : γ} (h : x = f  /\ P2 ) {C : γ -> Prop} (k : P2  -> C (f )) : C x := by
 obtain ⟨hr, h2⟩ := h
 subst hr
 exact k h2
theorem xAq2L  {f : γ} (h : P1  /\ x = f ) {C : γ -> Prop} (k : P1  -> C (f )) : C x := by
 obtain ⟨h1, hr⟩ := h
 subst hr
 exact k h1
theorem xAAq1L  {f : γ} (h : x = f  /\ P2  /\ P3 ) {C : γ -> Prop} (k : P2  -> P3  -> C (f )) : C x := by
 obtain ⟨hr, h2, h3⟩ := h
 subst hr
 exact k h2 h3
theorem xAAEEAq1L {f : γ} {P3 : α1 -> α2 -> Prop} {P4 : α1 -> α2 -> Prop} (h : x = f  /\ P2  /\ ∃ x1, ∃ x2, P3 x1 x2 /\ P4 x1 x2) {C : γ -> Prop} (k : P2  -> ∀ x1, ∀ x2, P3 x1 x2 -> P4 x1 x2 -> C (f )) : C x := by
 obtain ⟨hr, h2, x1, x2, h3, h4⟩ := h
 subst hr
 exact k h2 x1 x2 h3 h4
theorem xAEAq2L {f : α1 -> γ} {P3 : α1 -> Prop} (h : P1  /\ ∃ x1, x = f x1 /\ P3 x1) {C : γ -> Prop} (k : P1  -> ∀ x1, P3 x1 -> C (f x1)) : C x := by
 obtain ⟨h1, x1, hr, h3⟩ := h
 subst hr
 exact k h1 x1 h3
theorem xEq1L {f : α1 -> γ}  (h : ∃ x1, x = f x1) {C : γ -> Prop} (k : ∀ x1, C (f x1)) : C x := by
 obtain ⟨x1, hr⟩ := h
 subst hr
 exact k x1
theorem xEAq1L {f : α1 -> γ} {P2 : α1 -> Prop} (h : ∃ x1, x = f x1 /\ P2 x1) {C : γ -> Prop} (k : ∀ x1, P2 x1 -> C (f x1)) : C x := by
 obtain ⟨x1, hr, h2⟩ := h
 subst hr
 exact k x1 h2
theorem xEAq2R {f : α1 -> γ} {P1 : α1 -> Prop} (h : ∃ x1, P1 x1 /\ f x1 = x) {C : γ -> Prop} (k : ∀ x1, P1 x1 -> C (f x1)) : C x := by
 obtain ⟨x1, h1, hr⟩ := h
 subst hr
 exact k x1 h1
theorem xEAAq1L {f : α1 -> γ} {P2 : α1 -> Prop} {P3 : α1 -> Prop} (h : ∃ x1, x = f x1 /\ P2 x1 /\ P3 x1) {C : γ -> Prop} (k : ∀ x1, P2 x1 -> P3 x1 -> C (f x1)) : C x := by
 obtain ⟨x1, hr, h2, h3⟩ := h
 subst hr
 exact k x1 h2 h3
theorem xEAAAq1L {f : α1 -> γ} {P2 : α1 -> Prop} {P3 : α1 -> Prop} {P4 : α1 -> Prop} (h : ∃ x1, x = f x1 /\ P2 x1 /\ P3 x1 /\ P4 x1) {C : γ -> Prop} (k : ∀ x1, P2 x1 -> P3 x1 -> P4 x1 -> C (f x1)) : C x := by
 obtain ⟨x1, hr, h2, h3, h4⟩ := h
 subst hr
 exact k x1 h2 h3 h4
theorem xEEq1L {f : α1 -> α2 -> γ}  (h : ∃ x1, ∃ x2, x = f x1 x2) {C : γ -> Prop} (k : ∀ x1, ∀ x2, C (f x1 x2)) : C x := by
 obtain ⟨x1, x2, hr⟩ := h
 subst hr
 exact k x1 x2
theorem xEEAq1L {f : α1 -> α2 -> γ} {P2 : α1 -> α2 -> Prop} (h : ∃ x1, ∃ x2, x = f x1 x2 /\ P2 x1 x2) {C : γ -> Prop} (k : ∀ x1, ∀ x2, P2 x1 x2 -> C (f x1 x2)) : C x := by
 obtain ⟨x1, x2, hr, h2⟩ := h
 subst hr
 exact k x1 x2 h2
theorem xEEAq2L {f : α1 -> α2 -> γ} {P1 : α1 -> α2 -> Prop} (h : ∃ x1, ∃ x2, P1 x1 x2 /\ x = f x1 x2) {C : γ -> Prop} (k : ∀ x1, ∀ x2, P1 x1 x2 -> C (f x1 x2)) : C x := by
 obtain ⟨x1, x2, h1, hr⟩ := h
 subst hr
 exact k x1 x2 h1
theorem xEEAAq1L {f : α1 -> α2 -> γ} {P2 : α1 -> α2 -> Prop} {P3 : α1 -> α2 -> Prop} (h : ∃ x1, ∃ x2, x = f x1 x2 /\ P2 x1 x2 /\ P3 x1 x2) {C : γ -> Prop} (k : ∀ x1, ∀ x2, P2 x1 x2 -> P3 x1 x2 -> C (f x1 x2)) : C x := by
 obtain ⟨x1, x2, hr, h2, h3⟩ := h
 subst hr
 exact k x1 x2 h2 h3
theorem xEEAAAq1L {f : α1 -> α2 -> γ} {P2 : α1 -> α2 -> Prop} {P3 : α1 -> α2 -> Prop} {P4 : α1 -> α2 -> Prop} (h : ∃ x1, ∃ x2, x = f x1 x2 /\ P2 x1 x2 /\ P3 x1 x2 /\ P4 x1 x2) {C : γ -> Prop} (k : ∀ x1, ∀ x2, P2 x1 x2 -> P3 x1 x2 -> P4 x1 x2 -> C (f x1 x2)) : C x := by
 obtain ⟨x1, x2, hr, h2, h3, h4⟩ := h
 subst hr
 exact k x1 x2 h2 h3 h4
theorem xEEEq1L {f : α1 -> α2 -> α3 -> γ}  (h : ∃ x1, ∃ x2, ∃ x3, x = f x1 x2 x3) {C : γ -> Prop} (k : ∀ x1, ∀ x2, ∀ x3, C (f x1 x2 x3)) : C x := by
 obtain ⟨x1, x2, x3, hr⟩ := h
 subst hr
 exact k x1 x2 x3
theorem xEEEAAq1L {f : α1 -> α2 -> α3 -> γ} {P2 : α1 -> α2 -> α3 -> Prop} {P3 : α1 -> α2 -> α3 -> Prop} (h : ∃ x1, ∃ x2, ∃ x3, x = f x1 x2 x3 /\ P2 x1 x2 x3 /\ P3 x1 x2 x3) {C : γ -> Prop} (k : ∀ x1, ∀ x2, ∀ x3, P2 x1 x2 x3 -> P3 x1 x2 x3 -> C (f x1 x2 x3)) : C x := by
 obtain ⟨x1, x2, x3, hr, h2, h3⟩ := h
 subst hr
 exact k x1 x2 x3 h2 h3
theorem xEEEAAAq1L {f : α1 -> α2 -> α3 -> γ} {P2 : α1 -> α2 -> α3 -> Prop} {P3 : α1 -> α2 -> α3 -> Prop} {P4 : α1 -> α2 -> α3 -> Prop} (h : ∃ x1, ∃ x2, ∃ x3, x = f x1 x2 x3 /\ P2 x1 x2 x3 /\ P3 x1 x2 x3 /\ P4 x1 x2 x3) {C : γ -> Prop} (k : ∀ x1, ∀ x2, ∀ x3, P2 x1 x2 x3 -> P3 x1 x2 x3 -> P4 x1 x2 x3 -> C (f x1 x2 x3)) : C x := by
 obtain ⟨x1, x2, x3, hr, h2, h3, h4⟩ := h
 subst hr
 exact k x1 x2 x3 h2 h3 h4
theorem xEEEAAAAq1L {f : α1 -> α2 -> α3 -> γ} {P2 : α1 -> α2 -> α3 -> Prop} {P3 : α1 -> α2 -> α3 -> Prop} {P4 : α1 -> α2 -> α3 -> Prop} {P5 : α1 -> α2 -> α3 -> Prop} (h : ∃ x1, ∃ x2, ∃ x3, x = f x1 x2 x3 /\ P2 x1 x2 x3 /\ P3 x1 x2 x3 /\ P4 x1 x2 x3 /\ P5 x1 x2 x3) {C : γ -> Prop} (k : ∀ x1, ∀ x2, ∀ x3, P2 x1 x2 x3 -> P3 x1 x2 x3 -> P4 x1 x2 x3 -> P5 x1 x2 x3 -> C (f x1 x2 x3)) : C x := by
 obtain ⟨x1, x2, x3, hr, h2, h3, h4, h5⟩ := h
 subst hr
 exact k x1 x2 x3 h2 h3 h4 h5
theorem xEEEAAAAAq1L {f : α1 -> α2 -> α3 -> γ} {P2 : α1 -> α2 -> α3 -> Prop} {P3 : α1 -> α2 -> α3 -> Prop} {P4 : α1 -> α2 -> α3 -> Prop} {P5 : α1 -> α2 -> α3 -> Prop} {P6 : α1 -> α2 -> α3 -> Prop} (h : ∃ x1, ∃ x2, ∃ x3, x = f x1 x2 x3 /\ P2 x1 x2 x3 /\ P3 x1 x2 x3 /\ P4 x1 x2 x3 /\ P5 x1 x2 x3 /\ P6 x1 x2 x3) {C : γ -> Prop} (k : ∀ x1, ∀ x2, ∀ x3, P2 x1 x2 x3 -> P3 x1 x2 x3 -> P4 x1 x2 x3 -> P5 x1 x2 x3 -> P6 x1 x2 x3 -> C (f x1 x2 x3)) : C x := by
 obtain ⟨x1, x2, x3, hr, h2, h3, h4, h5, h6⟩ := h
 subst hr
 exact k x1 x2 x3 h2 h3 h4 h5 h6
theorem xEEEEAq1L {f : α1 -> α2 -> α3 -> α4 -> γ} {P2 : α1 -> α2 -> α3 -> α4 -> Prop} (h : ∃ x1, ∃ x2, ∃ x3, ∃ x4, x = f x1 x2 x3 x4 /\ P2 x1 x2 x3 x4) {C : γ -> Prop} (k : ∀ x1, ∀ x2, ∀ x3, ∀ x4, P2 x1 x2 x3 x4 -> C (f x1 x2 x3 x4)) : C x := by
 obtain ⟨x1, x2, x3, x4, hr, h2⟩ := h
 subst hr
 exact k x1 x2 x3 x4 h2
theorem xEEEEAAAq1L {f : α1 -> α2 -> α3 -> α4 -> γ} {P2 : α1 -> α2 -> α3 -> α4 -> Prop} {P3 : α1 -> α2 -> α3 -> α4 -> Prop} {P4 : α1 -> α2 -> α3 -> α4 -> Prop} (h : ∃ x1, ∃ x2, ∃ x3, ∃ x4, x = f x1 x2 x3 x4 /\ P2 x1 x2 x3 x4 /\ P3 x1 x2 x3 x4 /\ P4 x1 x2 x3 x4) {C : γ -> Prop} (k : ∀ x1, ∀ x2, ∀ x3, ∀ x4, P2 x1 x2 x3 x4 -> P3 x1 x2 x3 x4 -> P4 x1 x2 x3 x4 -> C (f x1 x2 x3 x4)) : C x := by
 obtain ⟨x1, x2, x3, x4, hr, h2, h3, h4⟩ := h
 subst hr
 exact k x1 x2 x3 x4 h2 h3 h4
theorem xEEEEAAAAq1L {f : α1 -> α2 -> α3 -> α4 -> γ} {P2 : α1 -> α2 -> α3 -> α4 -> Prop} {P3 : α1 -> α2 -> α3 -> α4 -> Prop} {P4 : α1 -> α2 -> α3 -> α4 -> Prop} {P5 : α1 -> α2 -> α3 -> α4 -> Prop} (h : ∃ x1, ∃ x2, ∃ x3, ∃ x4, x = f x1 x2 x3 x4 /\ P2 x1 x2 x3 x4 /\ P3 x1 x2 x3 x4 /\ P4 x1 x2 x3 x4 /\ P5 x1 x2 x3 x4) {C : γ -> Prop} (k : ∀ x1, ∀ x2, ∀ x3, ∀ x4, P2 x1 x2 x3 x4 -> P3 x1 x2 x3 x4 -> P4 x1 x2 x3 x4 -> P5 x1 x2 x3 x4 -> C (f x1 x2 x3 x4)) : C x := by
 obtain ⟨x1, x2, x3, x4, hr, h2, h3, h4, h5⟩ := h
 subst hr
 exact k x1 x2 x3 x4 h2 h3 h4 h5
theorem xEEEEAAAAAq1L {f : α1 -> α2 -> α3 -> α4 -> γ} {P2 : α1 -> α2 -> α3 -> α4 -> Prop} {P3 : α1 -> α2 -> α3 -> α4 -> Prop} {P4 : α1 -> α2 -> α3 -> α4 -> Prop} {P5 : α1 -> α2 -> α3 -> α4 -> Prop} {P6 : α1 -> α2 -> α3 -> α4 -> Prop} (h : ∃ x1, ∃ x2, ∃ x3, ∃ x4, x = f x1 x2 x3 x4 /\ P2 x1 x2 x3 x4 /\ P3 x1 x2 x3 x4 /\ P4 x1 x2 x3 x4 /\ P5 x1 x2 x3 x4 /\ P6 x1 x2 x3 x4) {C : γ -> Prop} (k : ∀ x1, ∀ x2, ∀ x3, ∀ x4, P2 x1 x2 x3 x4 -> P3 x1 x2 x3 x4 -> P4 x1 x2 x3 x4 -> P5 x1 x2 x3 x4 -> P6 x1 x2 x3 x4 -> C (f x1 x2 x3 x4)) : C x := by
 obtain ⟨x1, x2, x3, x4, hr, h2, h3, h4, h5, h6⟩ := h
 subst hr
 exact k x1 x2 x3 x4 h2 h3 h4 h5 h6
theorem xEEEEAAAAAAq1L {f : α1 -> α2 -> α3 -> α4 -> γ} {P2 : α1 -> α2 -> α3 -> α4 -> Prop} {P3 : α1 -> α2 -> α3 -> α4 -> Prop} {P4 : α1 -> α2 -> α3 -> α4 -> Prop} {P5 : α1 -> α2 -> α3 -> α4 -> Prop} {P6 : α1 -> α2 -> α3 -> α4 -> Prop} {P7 : α1 -> α2 -> α3 -> α4 -> Prop} (h : ∃ x1, ∃ x2, ∃ x3, ∃ x4, x = f x1 x2 x3 x4 /\ P2 x1 x2 x3 x4 /\ P3 x1 x2 x3 x4 /\ P4 x1 x2 x3 x4 /\ P5 x1 x2 x3 x4 /\ P6 x1 x2 x3 x4 /\ P7 x1 x2 x3 x4) {C : γ -> Prop} (k : ∀ x1, ∀ x2, ∀ x3, ∀ x4, P2 x1 x2 x3 x4 -> P3 x1 x2 x3 x4 -> P4 x1 x2 x3 x4 -> P5 x1 x2 x3 x4 -> P6 x1 x2 x3 x4 -> P7 x1 x2 x3 x4 -> C (f x1 x2 x3 x4)) : C x := by
 obtain ⟨x1, x2, x3, x4, hr, h2, h3, h4, h5, h6, h7⟩ := h
 subst hr
 exact k x1 x2 x3 x4 h2 h3 h4 h5 h6 h7
theorem xEEEEEAAAq1L {x : γ} {f : α1 -> α2 -> α3 -> α4 -> α5 -> γ} {P2 : α1 -> α2 -> α3 -> α4 -> α5 -> Prop} {P3 : α1 -> α2 -> α3 -> α4 -> α5 -> Prop} {P4 : α1 -> α2 -> α3 -> α4 -> α5 -> Prop} (h : ∃ x1, ∃ x2, ∃ x3, ∃ x4, ∃ x5, x = f x1 x2 x3 x4 x5 /\ P2 x1 x2 x3 x4 x5 /\ P3 x1 x2 x3 x4 x5 /\ P4 x1 x2 x3 x4 x5) {C : γ -> Prop} (k : ∀ x1, ∀ x2, ∀ x3, ∀ x4, ∀ x5, P2 x1 x2 x3 x4 x5 -> P3 x1 x2 x3 x4 x5 -> P4 x1 x2 x3 x4 x5 -> C (f x1 x2 x3 x4 x5)) : C x := by
 obtain ⟨x1, x2, x3, x4, x5, hr, h2, h3, h4⟩ := h
 subst hr
 exact k x1 x2 x3 x4 x5 h2 h3 h4
theorem xEEEEEAAAAq1L {x : γ} {f : α1 -> α2 -> α3 -> α4 -> α5 -> γ} {P2 : α1 -> α2 -> α3 -> α4 -> α5 -> Prop} {P3 : α1 -> α2 -> α3 -> α4 -> α5 -> Prop} {P4 : α1 -> α2 -> α3 -> α4 -> α5 -> Prop} {P5 : α1 -> α2 -> α3 -> α4 -> α5 -> Prop} (h : ∃ x1, ∃ x2, ∃ x3, ∃ x4, ∃ x5, x = f x1 x2 x3 x4 x5 /\ P2 x1 x2 x3 x4 x5 /\ P3 x1 x2 x3 x4 x5 /\ P4 x1 x2 x3 x4 x5 /\ P5 x1 x2 x3 x4 x5) {C : γ -> Prop} (k : ∀ x1, ∀ x2, ∀ x3, ∀ x4, ∀ x5, P2 x1 x2 x3 x4 x5 -> P3 x1 x2 x3 x4 x5 -> P4 x1 x2 x3 x4 x5 -> P5 x1 x2 x3 x4 x5 -> C (f x1 x2 x3 x4 x5)) : C x := by
 obtain ⟨x1, x2, x3, x4, x5, hr, h2, h3, h4, h5⟩ := h
 subst hr
 exact k x1 x2 x3 x4 x5 h2 h3 h4 h5
theorem xEEEEEEAAAq1L {α6 : Sort _} {γ : Sort _} {x : γ} {f : α1 -> α2 -> α3 -> α4 -> α5 -> α6 -> γ} {P2 : α1 -> α2 -> α3 -> α4 -> α5 -> α6 -> Prop} {P3 : α1 -> α2 -> α3 -> α4 -> α5 -> α6 -> Prop} {P4 : α1 -> α2 -> α3 -> α4 -> α5 -> α6 -> Prop} (h : ∃ x1, ∃ x2, ∃ x3, ∃ x4, ∃ x5, ∃ x6, x = f x1 x2 x3 x4 x5 x6 /\ P2 x1 x2 x3 x4 x5 x6 /\ P3 x1 x2 x3 x4 x5 x6 /\ P4 x1 x2 x3 x4 x5 x6) {C : γ -> Prop} (k : ∀ x1, ∀ x2, ∀ x3, ∀ x4, ∀ x5, ∀ x6, P2 x1 x2 x3 x4 x5 x6 -> P3 x1 x2 x3 x4 x5 x6 -> P4 x1 x2 x3 x4 x5 x6 -> C (f x1 x2 x3 x4 x5 x6)) : C x := by
 obtain ⟨x1, x2, x3, x4, x5, x6, hr, h2, h3, h4⟩ := h
 subst hr
 exact k x1 x2 x3 x4 x5 x6 h2 h3 h4
theorem xEEEEEEAAAAq1L {α6 : Sort _} {γ : Sort _} {x : γ} {f : α1 -> α2 -> α3 -> α4 -> α5 -> α6 -> γ} {P2 : α1 -> α2 -> α3 -> α4 -> α5 -> α6 -> Prop} {P3 : α1 -> α2 -> α3 -> α4 -> α5 -> α6 -> Prop} {P4 : α1 -> α2 -> α3 -> α4 -> α5 -> α6 -> Prop} {P5 : α1 -> α2 -> α3 -> α4 -> α5 -> α6 -> Prop} (h : ∃ x1, ∃ x2, ∃ x3, ∃ x4, ∃ x5, ∃ x6, x = f x1 x2 x3 x4 x5 x6 /\ P2 x1 x2 x3 x4 x5 x6 /\ P3 x1 x2 x3 x4 x5 x6 /\ P4 x1 x2 x3 x4 x5 x6 /\ P5 x1 x2 x3 x4 x5 x6) {C : γ -> Prop} (k : ∀ x1, ∀ x2, ∀ x3, ∀ x4, ∀ x5, ∀ x6, P2 x1 x2 x3 x4 x5 x6 -> P3 x1 x2 x3 x4 x5 x6 -> P4 x1 x2 x3 x4 x5 x6 -> P5 x1 x2 x3 x4 x5 x6 -> C (f x1 x2 x3 x4 x5 x6)) : C x := by
 obtain ⟨x1, x2, x3, x4, x5, x6, hr, h2, h3, h4, h5⟩ := h
 subst hr
 exact k x1 x2 x3 x4 x5 x6 h2 h3 h4 h5
theorem xEEEEEEEEAAAAAAq1L {α6 : Sort _} {α7 : Sort _} {α8 : Sort _} {γ : Sort _} {x : γ} {f : α1 -> α2 -> α3 -> α4 -> α5 -> α6 -> α7 -> α8 -> γ} {P2 : α1 -> α2 -> α3 -> α4 -> α5 -> α6 -> α7 -> α8 -> Prop} {P3 : α1 -> α2 -> α3 -> α4 -> α5 -> α6 -> α7 -> α8 -> Prop} {P4 : α1 -> α2 -> α3 -> α4 -> α5 -> α6 -> α7 -> α8 -> Prop} {P5 : α1 -> α2 -> α3 -> α4 -> α5 -> α6 -> α7 -> α8 -> Prop} {P6 : α1 -> α2 -> α3 -> α4 -> α5 -> α6 -> α7 -> α8 -> Prop} {P7 : α1 -> α2 -> α3 -> α4 -> α5 -> α6 -> α7 -> α8 -> Prop} (h : ∃ x1, ∃ x2, ∃ x3, ∃ x4, ∃ x5, ∃ x6, ∃ x7, ∃ x8, x = f x1 x2 x3 x4 x5 x6 x7 x8 /\ P2 x1 x2 x3 x4 x5 x6 x7 x8 /\ P3 x1 x2 x3 x4 x5 x6 x7 x8 /\ P4 x1 x2 x3 x4 x5 x6 x7 x8 /\ P5 x1 x2 x3 x4 x5 x6 x7 x8 /\ P6 x1 x2 x3 x4 x5 x6 x7 x8 /\ P7 x1 x2 x3 x4 x5 x6 x7 x8) {C : γ -> Prop} (k : ∀ x1, ∀ x2, ∀ x3, ∀ x4, ∀ x5, ∀ x6, ∀ x7, ∀ x8, P2 x1 x2 x3 x4 x5 x6 x7 x8 -> P3 x1 x2 x3 x4 x5 x6 x7 x8 -> P4 x1 x2 x3 x4 x5 x6 x7 x8 -> P5 x1 x2 x3 x4 x5 x6 x7 x8 -> P6 x1 x2 x3 x4 x5 x6 x7 x8 -> P7 x1 x2 x3 x4 x5 x6 x7 x8 -> C (f x1 x2 x3 x4 x5 x6 x7 x8)) : C x := by
 obtain ⟨x1, x2, x3, x4, x5, x6, x7, x8, hr, h2, h3, h4, h5, h6, h7⟩ := h
 subst hr
 exact k x1 x2 x3 x4 x5 x6 x7 x8 h2 h3 h4 h5 h6 h7
inductive D where
 | none
 | bool (b : Bool)
 | int (i : Int)
 | str (s : Str)
 | val (v : Value)
 | list (ds : List D)
 | tup (ds : List D)
 | inst (C : Addr) (ks : List Str) (ds : List D)
 | dict (ks : List Str) (ds : List D)
 deriving Inhabited
noncomputable def D.flat : D -> Bool
 | .none | .bool _ | .int _ | .str _ => true
 | _ => false
theorem ofString_inj (h : ofString a = ofString b) : a = b := by
 rw [Str.ofString_eq_toList, Str.ofString_eq_toList] at h
 have h1 : a.toList.map Char.toNat = b.toList.map Char.toNat := by
  have := congrArg (fun x : Str => x.cps.toList) h
  simpa using this
 have inj : ∀ l l' : List Char, l.map Char.toNat = l'.map Char.toNat -> l = l' := by
  intro l
  induction l with
  | nil => intro l' h; cases l' with
   | nil => rfl
   | cons _ _ => simp at h
  | cons c r ih =>
   intro l' h
   cases l' with
   | nil => simp at h
   | cons c' r' =>
    simp only [map_cons, List.cons.injEq] at h
    refine rwG (ih r' h.2) ?_
    congr 1
    exact Char.ext (UInt32.toNat_inj.mp h.1)
 exact String.toList_inj.mp (inj _ _ h1)
noncomputable def KeysAre (P : Params) : List Str -> List DictEntry -> Prop
 | [], [] => True
 | k :: ks, e :: es => (∃ t, e.key = .str k t) /\ e.hash = PyData.keyHash P k /\ KeysAre P ks es
 | _, _ => False
noncomputable abbrev tupOf (its : Array Value) (n : Nat) : Obj := { cls := .type "tuple", data := .seq its n }
mutual
inductive Rd (P : Params) (h : Heap) (X : Addr -> Prop) : D -> Value -> Prop
 | none : Rd P h X .none .none
 | bool (b : Bool) : Rd P h X (.bool b) (.bool b)
 | int (i : Int) (t : Tok) : Rd P h X (.int i) (.int i t)
 | str (s : Str) (t : Tok) : Rd P h X (.str s) (.str s t)
 | val (v : Value) : Rd P h X (.val v) v
 | list {a : Addr} {vs : Array Value} {n : Nat} {ds : List D} : ¬ X a -> h.get? a = some (listOf vs n) -> Rds P h X ds vs.toList -> Rd P h X (.list ds) (.ref a)
 | tup {a : Addr} {vs : Array Value} {n : Nat} {ds : List D} : ¬ X a -> h.get? a = some (tupOf vs n) -> Rds P h X ds vs.toList -> Rd P h X (.tup ds) (.ref a)
 | inst {a dx C : Addr} {es : List DictEntry} {n : Nat} {ks : List Str} {ds : List D} : ¬ X a -> ¬ X dx -> h.get? a = some (instObj C dx) -> h.get? dx = some (dictOf es n) -> KeysAre P ks es ->
   Rds P h X ds (es.map (·.val)) -> Rd P h X (.inst C ks ds) (.ref a)
 | dict {a : Addr} {es : List DictEntry} {n : Nat} {ks : List Str} {ds : List D} : (a == sysModules) = false -> ¬ X a -> h.get? a = some (dictOf es n) -> KeysAre P ks es ->
   Rds P h X ds (es.map (·.val)) -> Rd P h X (.dict ks ds) (.ref a)
inductive Rds (P : Params) (h : Heap) (X : Addr -> Prop) : List D -> List Value -> Prop
 | nil : Rds P h X [] []
 | cons {d : D} {v : Value} {ds : List D} {vs : List Value} : Rd P h X d v -> Rds P h X ds vs -> Rds P h X (d :: ds) (v :: vs)
end
noncomputable def Rd.Cs (P : Params) (h : Heap) (X : Addr -> Prop) (C : Value -> Prop) : D -> Prop
 | .none => C .none
 | .bool b => C (.bool b)
 | .int i => ∀ t, C (.int i t)
 | .str x => ∀ t, C (.str x t)
 | .val v => C v
 | .list ds => ∀ a vs n, ¬ X a -> h.get? a = some (listOf vs n) -> Rds P h X ds vs.toList -> C (.ref a)
 | .tup ds => ∀ a vs n, ¬ X a -> h.get? a = some (tupOf vs n) -> Rds P h X ds vs.toList -> C (.ref a)
 | .inst K ks ds => ∀ a dx es n, ¬ X a -> ¬ X dx -> h.get? a = some (instObj K dx) -> h.get? dx = some (dictOf es n) -> KeysAre P ks es -> Rds P h X ds (es.map (·.val)) -> C (.ref a)
 | .dict ks ds => ∀ a es n, (a == sysModules) = false -> ¬ X a -> h.get? a = some (dictOf es n) -> KeysAre P ks es -> Rds P h X ds (es.map (·.val)) -> C (.ref a)
section
variable {P : Params} {h : Heap} {X : Addr -> Prop} {d : D} {v : Value} {C : Value -> Prop}
theorem Rd.elim (r : Rd P h X d v) (c : Rd.Cs P h X C d) : C v := by
 cases r with
 | none => exact c
 | bool => exact c
 | int => exact c _
 | str => exact c _
 | val => exact c
 | list a b e => exact c _ _ _ a b e
 | tup a b e => exact c _ _ _ a b e
 | inst a b e f g i => exact c _ _ _ _ a b e f g i
 | dict a b e f g => exact c _ _ _ a b e f g
@[elab_as_elim] theorem Rd.noneE (r : Rd P h X .none v) (c : C .none) : C v := r.elim c
@[elab_as_elim] theorem Rd.boolE (r : Rd P h X (.bool b) v) (c : C (.bool b)) : C v := r.elim c
@[elab_as_elim] theorem Rd.valE (r : Rd P h X (.val u) v) (c : C u) : C v := r.elim c
@[elab_as_elim] theorem Rd.intE (r : Rd P h X (.int i) v) (c : ∀ t, C (.int i t)) : C v := r.elim c
@[elab_as_elim] theorem Rd.strE (r : Rd P h X (.str x) v) (c : ∀ t, C (.str x t)) : C v := r.elim c
@[elab_as_elim] theorem Rd.listE (r : Rd P h X (.list ds) v) (c : ∀ a vs n, ¬ X a -> h.get? a = some (listOf vs n) -> Rds P h X ds vs.toList -> C (.ref a)) : C v := r.elim c
@[elab_as_elim] theorem Rd.tupE (r : Rd P h X (.tup ds) v) (c : ∀ a vs n, ¬ X a -> h.get? a = some (tupOf vs n) -> Rds P h X ds vs.toList -> C (.ref a)) : C v := r.elim c
@[elab_as_elim] theorem Rd.instE {K : Addr} (r : Rd P h X (.inst K ks ds) v)
  (c : ∀ a dx es n, ¬ X a -> ¬ X dx -> h.get? a = some (instObj K dx) -> h.get? dx = some (dictOf es n) -> KeysAre P ks es -> Rds P h X ds (es.map (·.val)) -> C (.ref a)) : C v := r.elim c
@[elab_as_elim] theorem Rd.dictE (r : Rd P h X (.dict ks ds) v)
  (c : ∀ a es n, (a == sysModules) = false -> ¬ X a -> h.get? a = some (dictOf es n) -> KeysAre P ks es -> Rds P h X ds (es.map (·.val)) -> C (.ref a)) : C v := r.elim c
noncomputable def Rds.Cs (P : Params) (h : Heap) (X : Addr -> Prop) (C : List Value -> Prop) : List D -> Prop
 | [] => C []
 | d :: ds => ∀ v vs, Rd P h X d v -> Rds P h X ds vs -> C (v :: vs)
theorem Rds.elim {C : List Value -> Prop} (r : Rds P h X ds vs) (c : Rds.Cs P h X C ds) : C vs := by
 cases r with
 | nil => exact c
 | cons a b => exact c _ _ a b
@[elab_as_elim] theorem Rds.nilE {C : List Value -> Prop} (r : Rds P h X [] vs) (c : C []) : C vs := r.elim c
@[elab_as_elim] theorem Rds.consE {C : List Value -> Prop} (r : Rds P h X (d :: ds) vs) (c : ∀ v vs, Rd P h X d v -> Rds P h X ds vs -> C (v :: vs)) : C vs := r.elim c
theorem Rds.consE' {vs : List Value} {C : Prop} (r : Rds P h X (d :: ds) (v :: vs)) (c : Rd P h X d v -> Rds P h X ds vs -> C) : C :=
 r.consE (C := fun l => l = v :: vs -> C) (fun _ _ a b e => by injection e with e1 e2; subst e1 e2; exact c a b) rfl
end
theorem Rds.length {P h X} {ds : List D} : ∀ {vs : List Value}, Rds P h X ds vs -> ds.length = vs.length := by
 induction ds with
 | nil => exact fun r => r.nilE rfl
 | cons d ds ih => exact fun r => r.consE fun v vs _ rs => congrArg Nat.succ (ih rs)
theorem Rd.moveC (hk : ∀ a o, ¬ X a -> (∀ vs, o.data ≠ .fields vs) -> h.get? a = some o -> h'.get? a = some o) (hX : ∀ a o, h.get? a = some o -> X' a -> X a) :
  ∀ {d : D} {v : Value}, Rd P h X d v -> Rd P h' X' d v := by
 intro d v r
 refine Rd.rec (motive_1 := fun d v _ => Rd P h' X' d v) (motive_2 := fun ds vs _ => Rds P h' X' ds vs) .none .bool .int .str .val ?_ ?_ ?_ ?_ .nil ?_ r
 ·intro a vs n ds hx ho _ ih; exact .list (fun q => hx (hX _ _ ho q)) (hk _ _ hx nofun ho) ih
 ·intro a vs n ds hx ho _ ih; exact .tup (fun q => hx (hX _ _ ho q)) (hk _ _ hx nofun ho) ih
 ·intro a dx C es n ks ds hx hdx ho hdo hks _ ih; exact .inst (fun q => hx (hX _ _ ho q)) (fun q => hdx (hX _ _ hdo q)) (hk _ _ hx nofun ho) (hk _ _ hdx nofun hdo) hks ih
 ·intro a es n ks ds hs hx ho hks _ ih; exact .dict hs (fun q => hx (hX _ _ ho q)) (hk _ _ hx nofun ho) hks ih
 ·intro d v ds vs _ _ i1 i2; exact .cons i1 i2
theorem Rds.moveC {h h' : Heap} {X X' : Addr -> Prop} (hk : ∀ a o, ¬ X a -> (∀ vs, o.data ≠ .fields vs) -> h.get? a = some o -> h'.get? a = some o) (hX : ∀ a o, h.get? a = some o -> X' a -> X a) :
  ∀ {vs : List Value}, Rds P h X ds vs -> Rds P h' X' ds vs := by
 induction ds with
 | nil => exact fun r => r.nilE .nil
 | cons d ds ih => exact fun r => r.consE fun v vs r rs => .cons (r.moveC hk hX) (ih rs)
section
variable {P : Params} {h h' : Heap} {X X' : Addr -> Prop} {d : D} {v : Value} {ds : List D} {vs : List Value}
theorem Rd.move (hk : ∀ a o, ¬ X a -> h.get? a = some o -> h'.get? a = some o) (hX : ∀ a o, h.get? a = some o -> X' a -> X a) (r : Rd P h X d v) : Rd P h' X' d v := r.moveC (fun a o x _ e => hk a o x e) hX
theorem Rds.move (hk : ∀ a o, ¬ X a -> h.get? a = some o -> h'.get? a = some o) (hX : ∀ a o, h.get? a = some o -> X' a -> X a) (r : Rds P h X ds vs) : Rds P h' X' ds vs := r.moveC (fun a o x _ e => hk a o x e) hX
theorem Rd.keeps (r : Rd P h X d v) (hk : ∀ a o, h.get? a = some o -> h'.get? a = some o) : Rd P h' X d v := r.move (fun a o _ e => hk a o e) (fun _ _ _ x => x)
theorem Rds.keeps (r : Rds P h X ds vs) (hk : ∀ a o, h.get? a = some o -> h'.get? a = some o) : Rds P h' X ds vs := r.move (fun a o _ e => hk a o e) (fun _ _ _ x => x)
theorem Rd.less (r : Rd P h X d v) (hX : ∀ a, X' a -> X a) : Rd P h X' d v := r.move (fun _ _ _ e => e) (fun a _ _ x => hX a x)
theorem Rds.less (r : Rds P h X ds vs) (hX : ∀ a, X' a -> X a) : Rds P h X' ds vs := r.move (fun _ _ _ e => e) (fun a _ _ x => hX a x)
theorem Rd.flat (r : Rd P h X d v) (f : d.flat = true) : Rd P h' X' d v := by
 cases d <;> first | injection f | skip
 ·exact r.noneE .none
 ·exact r.boolE (.bool _)
 ·exact r.intE fun t => .int _ t
 ·exact r.strE fun t => .str _ t
theorem Rds.append {ds' : List D} {vs' : List Value} (r : Rds P h X ds vs) (r' : Rds P h X ds' vs') : Rds P h X (ds ++ ds') (vs ++ vs') := by
 induction ds generalizing vs with
 | nil => exact r.nilE r'
 | cons d ds ih => exact r.consE fun v vs a b => .cons a (ih b)
end
theorem Rds.flat {X X' : Addr -> Prop} {ds : List D} : ∀ {vs : List Value}, Rds P h X ds vs -> ds.all D.flat = true -> Rds P h' X' ds vs := by
 induction ds with
 | nil => exact fun r _ => r.nilE .nil
 | cons d ds ih => exact fun r f => r.consE fun v vs r rs => .cons (r.flat (Bool.and_eq_true_iff.mp f).1) (ih rs (Bool.and_eq_true_iff.mp f).2)
theorem Rds.get {ds : List D} : ∀ {vs : List Value} {i : Nat}, Rds P h X ds vs -> ds[i]? = some d -> ∃ v, vs[i]? = some v /\ Rd P h X d v := by
 induction ds with
 | nil => exact fun _ e => nomatch e
 | cons d ds ih =>
  refine fun {vs i} r e => r.consE fun v vs r rs => ?_
  cases i with
  | zero => exact ⟨_, rfl, osi e ▸ r⟩
  | succ i => exact ih (vs := vs) (i := i) rs e
inductive OwnRd (P : Params) (h : Heap) (X : Addr -> Prop) : D -> Value -> Addr -> Prop
 | list {a : Addr} {vs : Array Value} {n : Nat} {ds : List D} : X a -> h.get? a = some (listOf vs n) -> Rds P h X ds vs.toList -> OwnRd P h X (.list ds) (.ref a) a
 | dict {a : Addr} {es : List DictEntry} {n : Nat} {ks : List Str} {ds : List D} : (a == sysModules) = false -> X a -> h.get? a = some (dictOf es n) -> KeysAre P ks es ->
   Rds P h X ds (es.map (·.val)) -> OwnRd P h X (.dict ks ds) (.ref a) a
 | inst {a dx C : Addr} {es : List DictEntry} {n : Nat} {ks : List Str} {ds : List D} : ¬ X a -> X dx -> h.get? a = some (instObj C dx) -> h.get? dx = some (dictOf es n) -> KeysAre P ks es ->
   Rds P h X ds (es.map (·.val)) -> OwnRd P h X (.inst C ks ds) (.ref a) dx
theorem OwnRd.root (o : OwnRd P h X d v r) : X r := by cases o <;> assumption
noncomputable def OwnRd.Cs (P : Params) (h : Heap) (X : Addr -> Prop) (C : Value -> Addr -> Prop) : D -> Prop
 | .list ds => ∀ a vs n, X a -> h.get? a = some (listOf vs n) -> Rds P h X ds vs.toList -> C (.ref a) a
 | .inst K ks ds => ∀ a dx es n, ¬ X a -> X dx -> h.get? a = some (instObj K dx) -> h.get? dx = some (dictOf es n) -> KeysAre P ks es -> Rds P h X ds (es.map (·.val)) -> C (.ref a) dx
 | .dict ks ds => ∀ a es n, (a == sysModules) = false -> X a -> h.get? a = some (dictOf es n) -> KeysAre P ks es -> Rds P h X ds (es.map (·.val)) -> C (.ref a) a
 | _ => True
section
variable {P : Params} {h : Heap} {X : Addr -> Prop} {d : D} {v : Value} {r : Addr} {C : Value -> Addr -> Prop}
theorem OwnRd.elim (o : OwnRd P h X d v r) (c : OwnRd.Cs P h X C d) : C v r := by
 cases o with
 | list a b e => exact c _ _ _ a b e
 | dict a b e f g => exact c _ _ _ a b e f g
 | inst a b e f g i => exact c _ _ _ _ a b e f g i
@[elab_as_elim] theorem OwnRd.listE (o : OwnRd P h X (.list ds) v r) (c : ∀ a vs n, X a -> h.get? a = some (listOf vs n) -> Rds P h X ds vs.toList -> C (.ref a) a) : C v r := o.elim c
@[elab_as_elim] theorem OwnRd.instE {K : Addr} (o : OwnRd P h X (.inst K ks ds) v r)
  (c : ∀ a dx es n, ¬ X a -> X dx -> h.get? a = some (instObj K dx) -> h.get? dx = some (dictOf es n) -> KeysAre P ks es -> Rds P h X ds (es.map (·.val)) -> C (.ref a) dx) : C v r := o.elim c
@[elab_as_elim] theorem OwnRd.dictE (o : OwnRd P h X (.dict ks ds) v r)
  (c : ∀ a es n, (a == sysModules) = false -> X a -> h.get? a = some (dictOf es n) -> KeysAre P ks es -> Rds P h X ds (es.map (·.val)) -> C (.ref a) a) : C v r := o.elim c
end
@[elab_as_elim] theorem OwnRd.listE' {C : Addr -> Prop} (o : OwnRd P h X (.list ds) (.ref a) r) (c : ∀ vs n, X a -> h.get? a = some (listOf vs n) -> Rds P h X ds vs.toList -> C a) : C r :=
 o.listE (C := fun v r => v = .ref a -> C r) (fun a' vs n x ho hr e => by obtain rfl := Value.ref.inj e; exact c vs n x ho hr) rfl
theorem OwnRd.lstv (o : OwnRd P h X (.list ds) v r) : v = .ref r := o.listE (C := fun v r => v = .ref r) fun _ _ _ _ _ _ => rfl
theorem OwnRd.lstr (o : OwnRd P h X (.list ds) (.ref a) r) : r = a := (Value.ref.inj o.lstv).symm
theorem OwnRd.instE' {P h X K ks ds a r} {C : Prop} (o : OwnRd P h X (.inst K ks ds) (.ref a) r)
  (c : ∀ es n, ¬ X a -> X r -> h.get? a = some (instObj K r) -> h.get? r = some (dictOf es n) -> KeysAre P ks es -> Rds P h X ds (es.map (·.val)) -> C) : C :=
 o.instE (C := fun v r' => v = .ref a -> r' = r -> C) (fun a' dx es n x x' ho hd hk hr e e' => by obtain rfl := Value.ref.inj e; subst e'; exact c es n x x' ho hd hk hr) rfl rfl
inductive Ent where
 | v (d : D)
 | own (d : D)
noncomputable def EntRd (P : Params) (h : Heap) (X : Addr -> Prop) : Ent -> Value -> Addr -> Prop
 | .v d, v, _ => Rd P h X d v
 | .own d, v, r => OwnRd P h X d v r
noncomputable def VarAt (env : Env) (m : Str -> Option Value) (h : Heap) (x : String) (v : Value) : Prop :=
 (env.kindOf (ofString x) = some .local /\ m (ofString x) = some v) \/
 ((env.kindOf (ofString x) = some .cell \/ env.kindOf (ofString x) = some .free) /\ ∃ c, env.cells.lookup (ofString x) = some c /\ h.IsCell c (some v))
noncomputable abbrev Ro := List (String × Ent)
structure St (P : Params) (hT : Heap) (env : Env) (X₀ X : Addr -> Prop) (ρ : Ro) (h : Heap) : Prop where
 base : ∀ a o, hT.get? a = some o -> h.get? a = some o
 off : ∀ a, X a -> hT.get? a = none
 live : ∀ a, X a -> ∃ o, h.get? a = some o
 sub : ∀ a, X₀ a -> X a
 fn : env.scope.kind = .function
 glob : env.globals = mainGlobals
 blt : env.builtins = builtinsNs
 loc : X env.locals
 loc0 : ¬ X₀ env.locals
 cell0 : ∀ n c, env.cells.lookup n = some c -> ¬ X₀ c
 celled : ∀ n, env.kindOf n = some .cell \/ env.kindOf n = some .free -> ∃ c, env.cells.lookup n = some c
 cells : ∀ n c, env.cells.lookup n = some c -> X c /\ c ≠ env.locals /\ ∃ v, h.IsCell c v
 apart : ∀ n n' c, env.cells.lookup n = some c -> env.cells.lookup n' = some c -> n = n'
 vars : ∃ (m : Str -> Option Value) (κ : String -> Addr), h.Ns env.locals m /\
  (∀ x e, ρ.lookup x = some e -> ∃ v, VarAt env m h x v /\ EntRd P h X e v (κ x)) /\
  (∀ x y d d', ρ.lookup x = some (.own d) -> ρ.lookup y = some (.own d') -> κ x = κ y -> x = y) /\
  (∀ x d, ρ.lookup x = some (.own d) -> ¬ X₀ (κ x) /\ κ x ≠ env.locals /\ ∀ n c, env.cells.lookup n = some c -> κ x ≠ c)
theorem VarAt.keeps (a : VarAt env m h x v) (hk : ∀ a o, h.get? a = some o -> h'.get? a = some o) : VarAt env m h' x v := by
 rcases a with a | ⟨a, c, b, d⟩
 ·exact .inl a
 ·exact .inr ⟨a, c, b, d.keeps hk⟩
theorem OwnRd.moveC (o : OwnRd P h X d v r) (hr : ∀ ob, (∀ vs, ob.data ≠ .fields vs) -> h.get? r = some ob -> h'.get? r = some ob) (hX : X' r) (hk : ∀ a o, ¬ X a -> (∀ vs, o.data ≠ .fields vs) -> h.get? a = some o -> h'.get? a = some o) (hX' : ∀ a o, h.get? a = some o -> X' a -> X a) : OwnRd P h' X' d v r := by
 cases o with
 | list a b c => exact .list hX (hr _ nofun b) (c.moveC hk hX')
 | dict z a b c d => exact .dict z hX (hr _ nofun b) c (d.moveC hk hX')
 | inst a b c d e f => exact .inst (fun q => a (hX' _ _ c q)) hX (hk _ _ a nofun c) (hr _ nofun d) e (f.moveC hk hX')
theorem OwnRd.keeps (o : OwnRd P h X d v r) (hk : ∀ a o, h.get? a = some o -> h'.get? a = some o) : OwnRd P h' X d v r := by
 exact o.moveC (fun _ _ e => hk _ _ e) o.root (fun _ _ _ _ e => hk _ _ e) fun _ _ _ x => x
theorem EntRd.keeps (o : EntRd P h X e v r) (hk : ∀ a o, h.get? a = some o -> h'.get? a = some o) : EntRd P h' X e v r := by
 cases e with
 | v d => exact Rd.keeps o hk
 | own d => exact OwnRd.keeps o hk
theorem St.keeps (S : St P hT env X₀ X ρ h) (hk : ∀ a o, h.get? a = some o -> h'.get? a = some o) : St P hT env X₀ X ρ h' where
 base := fun a o e => hk _ _ (S.base a o e)
 off := S.off
 live := fun a e => (S.live a e).imp fun o q => hk _ _ q
 sub := S.sub
 fn := S.fn
 glob := S.glob
 blt := S.blt
 loc := S.loc
 loc0 := S.loc0
 cell0 := S.cell0
 celled := S.celled
 cells := fun n c e => ⟨(S.cells n c e).1, (S.cells n c e).2.1, (S.cells n c e).2.2.imp fun v x => x.keeps hk⟩
 apart := S.apart
 vars := xEEAAA S.vars fun m κ hn hv hi ho => ⟨m, κ, hn.keeps hk, fun x e q => (hv x e q).imp fun v ab => ⟨ab.1.keeps hk, ab.2.keeps hk⟩, hi, ho⟩
structure Cx where
 glob : List (String × D)
 bin : Operator -> D -> D -> (D -> Prop) -> Prop
 aug : Operator -> D -> D -> (D -> Prop) -> Prop
 cmp : CmpOp -> D -> D -> (D -> Prop) -> Prop
 item : D -> D -> (D -> Prop) -> Prop
 slice : D -> Option D -> Option D -> Option D -> (D -> Prop) -> Prop
 isFn : Value -> Bool
 fn : Value -> List D -> (D -> Prop) -> Prop
 len : D -> (D -> Prop) -> Prop
 meth : D -> String -> Option Value
 attr : D -> String -> (D -> Prop) -> Prop
 mutId : String -> D -> Option String
 mutW : String -> D -> List D -> (D -> Prop) -> Prop
 setI : D -> D -> D -> (D -> Prop) -> Prop
 setA : D -> String -> D -> (D -> Prop) -> Prop
mutual
inductive CE where
 | lit (c : Const)
 | var (x : String)
 | own (x : String)
 | glob (x : String)
 | bin (op : Operator) (a b : CE)
 | neg (a : CE)
 | not (a : CE)
 | bop (op : BoolOp) (es : CL)
 | ite (t a b : CE)
 | cmp (op : CmpOp) (a b : CE)
 | call (f : CE) (args : CL)
 | meth (o : CE) (name : String) (args : CL)
 | attr (o : CE) (name : String)
 | item (o i : CE)
 | slice (o : CE) (l u s : CO)
 | list (es : CL)
 | tup (es : CL)
 | comp (elt : CE) (x : String) (it : CI) (ifs : CL) (caps : List String)
 | compP (elt : CE) (x y : String) (a b : CE) (ifs : CL) (caps : List String)
 | lenO (x : String)
inductive CL where
 | nil
 | cons (e : CE) (r : CL)
inductive CO where
 | no
 | yes (e : CE)
inductive CI where
 | over (e : CE)
 | rng1 (e : CE)
 | rng2 (a b : CE)
end
noncomputable def CE.isOwn : CE -> Bool
 | .own _ => true
 | _ => false
noncomputable def CE.fresh : CE -> Bool
 | .list _ | .slice .. | .comp .. | .compP .. | .bin .. => true
 | _ => false
noncomputable def litD : Const -> Option D
 | .none => some .none
 | .bool b => some (.bool b)
 | .int i => some (.int i)
 | .str s => some (.str s)
 | _ => none
noncomputable def intL (a b : Int) : List D := (List.range (b - a).toNat).map fun i => D.int (a + (i : Nat))
noncomputable def signs (s : Str) : List D := s.cps.toList.map fun c => D.str ⟨#[c]⟩
noncomputable def iterD : D -> Option (List D)
 | .list ds => some ds
 | .str s => some (signs s)
 | _ => none
noncomputable def small (i : Int) : Prop := -(2 ^ 62) <= i /\ i < 2 ^ 62
noncomputable def caught (ρ : Ro) (caps : List String) : Ro := caps.filterMap fun y => match ρ.lookup y with | some (.v d) => some (y, .v d) | _ => none
noncomputable def compL {α : Type} (t : α -> (Bool -> Prop) -> Prop) (f : α -> (D -> Prop) -> Prop) : List α -> List D -> (List D -> Prop) -> Prop
 | [], acc, K => K acc
 | d :: ds, acc, K => t d fun b => (b = true -> f d fun r => compL t f ds (acc ++ [r]) K) /\ (b = false -> compL t f ds acc K)
noncomputable def onBool (K : Bool -> Prop) : D -> Prop
 | .bool b => K b
 | _ => False
@[reducible] noncomputable def isI (K : Int -> Prop) : D -> Prop
 | .int b => K b
 | _ => False
@[reducible] noncomputable def isL (K : List D -> Prop) : D -> Prop
 | .list b => K b
 | _ => False
mutual
noncomputable def evW (c : Cx) (ρ : Ro) : CE -> (D -> Prop) -> Prop
 | .lit k, K => (match litD k with | some d => K d | none => False)
 | .var x, K => (match ρ.lookup x with | some (.v d) => K d | _ => False)
 | .own x, K => (match ρ.lookup x with | some (.own d) => K d | _ => False)
 | .glob x, K => (match c.glob.lookup x with | some d => K d | none => False)
 | .bin op a b, K => evW c ρ a fun x => evW c ρ b fun y => c.bin op x y K
 | .neg a, K => evW c ρ a (isI fun i => K (.int (-i)))
 | .not a, K => evW c ρ a (onBool fun b => K (.bool (!b)))
 | .bop op es, K => bopW c ρ op es K
 | .ite t a b, K => evW c ρ t (onBool fun q => (q = true -> evW c ρ a K) /\ (q = false -> evW c ρ b K))
 | .cmp op a b, K => evW c ρ a fun x => evW c ρ b fun y => c.cmp op x y K
 | .call f as, K => evW c ρ f fun g => (match g with | .val v => c.isFn v = true /\ evsW c ρ as fun ds => c.fn v ds K | _ => False)
 | .meth o m as, K => evW c ρ o fun x => (match c.meth x m with | some f => c.isFn f = true /\ evsW c ρ as fun ds => c.fn f (x :: ds) K | none => False)
 | .attr o m, K => evW c ρ o fun x => c.attr x m K
 | .item o i, K => evW c ρ o fun x => evW c ρ i fun y => c.item x y K
 | .slice o l u st, K => evW c ρ o fun x => optW c ρ l fun l => optW c ρ u fun u => optW c ρ st fun st => c.slice x l u st K
 | .list es, K => evsW c ρ es fun ds => ds.length <= sizeLine /\ K (.list ds)
 | .tup es, K => evsW c ρ es fun ds => ds.length <= sizeLine /\ K (.tup ds)
 | .comp elt x it ifs caps, K => itW c ρ it fun ds => ds.length <= sizeLine /\
   compL (fun d => testsW c ((x, .v d) :: caught ρ caps) ifs) (fun d => evW c ((x, .v d) :: caught ρ caps) elt) ds [] fun rs => K (.list rs)
 | .compP elt x y a b ifs caps, K => evW c ρ a (isL fun ps => evW c ρ b (isL fun qs => ps.length <= sizeLine /\ qs.length <= sizeLine /\
    compL (fun d => testsW c ((x, .v d.1) :: (y, .v d.2) :: caught ρ caps) ifs) (fun d => evW c ((x, .v d.1) :: (y, .v d.2) :: caught ρ caps) elt) (ps.zip qs) [] fun rs => K (.list rs)))
 | .lenO x, K => (match ρ.lookup x with | some (.own d) => c.len d K | _ => False)
noncomputable def optW (c : Cx) (ρ : Ro) : CO -> (Option D -> Prop) -> Prop
 | .no, K => K none
 | .yes e, K => evW c ρ e fun d => K (some d)
noncomputable def evsW (c : Cx) (ρ : Ro) : CL -> (List D -> Prop) -> Prop
 | .nil, K => K []
 | .cons e r, K => evW c ρ e fun d => evsW c ρ r fun ds => K (d :: ds)
noncomputable def testsW (c : Cx) (ρ : Ro) : CL -> (Bool -> Prop) -> Prop
 | .nil, K => K true
 | .cons e r, K => evW c ρ e (onBool fun b => (b = true -> testsW c ρ r K) /\ (b = false -> K false))
noncomputable def bopW (c : Cx) (ρ : Ro) (op : BoolOp) : CL -> (D -> Prop) -> Prop
 | .nil, _ => False
 | .cons e r, K => evW c ρ e (onBool fun b => (match r with
   | .nil => K (.bool b)
   | .cons _ _ => (match op with
    | .And => (b = true -> bopW c ρ op r K) /\ (b = false -> K (.bool false))
    | .Or => (b = false -> bopW c ρ op r K) /\ (b = true -> K (.bool true)))))
noncomputable def itW (c : Cx) (ρ : Ro) : CI -> (List D -> Prop) -> Prop
 | .over e, K => evW c ρ e fun d => (match iterD d with | some ds => K ds | none => False)
 | .rng1 e, K => evW c ρ e (isI fun n => small n /\ K (intL 0 n))
 | .rng2 a b, K => evW c ρ a (isI fun m => evW c ρ b (isI fun n => small m /\ small n /\ K (intL m n)))
end
noncomputable def relab (names inner : List (Str × NameKind)) : List (Str × NameKind) :=
 inner.map fun (n, k) => if (k == .free && names.lookup n == some .cell) then (n, .cell) else (n, k)
noncomputable def isSet : Expr -> Bool
 | .Set .. => true
 | _ => false
noncomputable def isNm (x : String) (n : Str) : Bool := n == ofString x && !(n == ("__debug__" : Str)) && !(n == ("__classdict__" : Str))
noncomputable def scopeOk (names : List (Str × NameKind)) (sc : Scope) (xs caps : List String) : Bool :=
 sc.kind == .function && sc.names.all (fun y => y.2 != .cell) && sc.names.all (fun y => y.2 != .local || sc.names.lookup y.1 == some .local) &&
 sc.names.all (fun y => y.2 != .free || names.lookup y.1 == some .cell) &&
 xs.all (fun x => sc.names.lookup (ofString x) == some .local) && caps.all (fun x => sc.names.lookup (ofString x) == some .free)
noncomputable def wConst (z : Expr) (k : Const -> Nat -> Pos -> Bool) : Bool := if h : z.ctorIdx = 19 then Expr.Constant.elim (motive_1 := fun _ => Bool) z h k else false
@[elab_as_elim] theorem wConst_E {C : Expr -> Prop} (h : wConst z k = true) (cc : ∀ c n p, k c n p = true -> C (.Constant c n p)) : C z :=
 if q : z.ctorIdx = 19 then Expr.Constant.elim (motive_1 := fun z => wConst z k = true -> C z) z q cc h else absurd ((dif_neg q).symm.trans h) Bool.false_ne_true
noncomputable def wName (z : Expr) (k : Str -> Pos -> Bool) : Bool := if h : z.ctorIdx = 23 then Expr.Name.elim (motive_1 := fun _ => Bool) z h k else false
@[elab_as_elim] theorem wName_E {C : Expr -> Prop} (h : wName z k = true) (cc : ∀ n p, k n p = true -> C (.Name n p)) : C z :=
 if q : z.ctorIdx = 23 then Expr.Name.elim (motive_1 := fun z => wName z k = true -> C z) z q cc h else absurd ((dif_neg q).symm.trans h) Bool.false_ne_true
theorem wName_inv {z : Expr} {k : Str -> Pos -> Bool} (h : wName z k = true) : ∃ n p, z = .Name n p /\ k n p = true := wName_E h fun n p h => ⟨n, p, rfl, h⟩
noncomputable def wBin (z : Expr) (k : Expr -> Operator -> Expr -> Pos -> Bool) : Bool := if h : z.ctorIdx = 2 then Expr.BinOp.elim (motive_1 := fun _ => Bool) z h k else false
@[elab_as_elim] theorem wBin_E {C : Expr -> Prop} (h : wBin z k = true) (cc : ∀ l op r p, k l op r p = true -> C (.BinOp l op r p)) : C z :=
 if q : z.ctorIdx = 2 then Expr.BinOp.elim (motive_1 := fun z => wBin z k = true -> C z) z q cc h else absurd ((dif_neg q).symm.trans h) Bool.false_ne_true
noncomputable def wUn (z : Expr) (k : UnaryOp -> Expr -> Pos -> Bool) : Bool := if h : z.ctorIdx = 3 then Expr.UnaryOp.elim (motive_1 := fun _ => Bool) z h k else false
@[elab_as_elim] theorem wUn_E {C : Expr -> Prop} (h : wUn z k = true) (cc : ∀ op x p, k op x p = true -> C (.UnaryOp op x p)) : C z :=
 if q : z.ctorIdx = 3 then Expr.UnaryOp.elim (motive_1 := fun z => wUn z k = true -> C z) z q cc h else absurd ((dif_neg q).symm.trans h) Bool.false_ne_true
noncomputable def wBop (z : Expr) (k : BoolOp -> List Expr -> Pos -> Bool) : Bool := if h : z.ctorIdx = 0 then Expr.BoolOp.elim (motive_1 := fun _ => Bool) z h k else false
@[elab_as_elim] theorem wBop_E {C : Expr -> Prop} (h : wBop z k = true) (cc : ∀ op vs p, k op vs p = true -> C (.BoolOp op vs p)) : C z :=
 if q : z.ctorIdx = 0 then Expr.BoolOp.elim (motive_1 := fun z => wBop z k = true -> C z) z q cc h else absurd ((dif_neg q).symm.trans h) Bool.false_ne_true
noncomputable def wIte (z : Expr) (k : Expr -> Expr -> Expr -> Pos -> Bool) : Bool := if h : z.ctorIdx = 5 then Expr.IfExp.elim (motive_1 := fun _ => Bool) z h k else false
@[elab_as_elim] theorem wIte_E {C : Expr -> Prop} (h : wIte z k = true) (cc : ∀ t a b p, k t a b p = true -> C (.IfExp t a b p)) : C z :=
 if q : z.ctorIdx = 5 then Expr.IfExp.elim (motive_1 := fun z => wIte z k = true -> C z) z q cc h else absurd ((dif_neg q).symm.trans h) Bool.false_ne_true
noncomputable def wCmp (z : Expr) (k : Expr -> List CmpOp -> List Expr -> Pos -> Bool) : Bool := if h : z.ctorIdx = 15 then Expr.Compare.elim (motive_1 := fun _ => Bool) z h k else false
@[elab_as_elim] theorem wCmp_E {C : Expr -> Prop} (h : wCmp z k = true) (cc : ∀ l ops cs p, k l ops cs p = true -> C (.Compare l ops cs p)) : C z :=
 if q : z.ctorIdx = 15 then Expr.Compare.elim (motive_1 := fun z => wCmp z k = true -> C z) z q cc h else absurd ((dif_neg q).symm.trans h) Bool.false_ne_true
noncomputable def wCall (z : Expr) (k : Expr -> List Expr -> List Keyword -> Pos -> Bool) : Bool := if h : z.ctorIdx = 16 then Expr.Call.elim (motive_1 := fun _ => Bool) z h k else false
@[elab_as_elim] theorem wCall_E {C : Expr -> Prop} (h : wCall z k = true) (cc : ∀ f as ks p, k f as ks p = true -> C (.Call f as ks p)) : C z :=
 if q : z.ctorIdx = 16 then Expr.Call.elim (motive_1 := fun z => wCall z k = true -> C z) z q cc h else absurd ((dif_neg q).symm.trans h) Bool.false_ne_true
theorem wCall_inv {z : Expr} {k : Expr -> List Expr -> List Keyword -> Pos -> Bool} (h : wCall z k = true) : ∃ f as ks p, z = .Call f as ks p /\ k f as ks p = true := wCall_E h fun f as ks p h => ⟨f, as, ks, p, rfl, h⟩
noncomputable def wAtt (z : Expr) (k : Expr -> Str -> Pos -> Bool) : Bool := if h : z.ctorIdx = 20 then Expr.Attribute.elim (motive_1 := fun _ => Bool) z h k else false
@[elab_as_elim] theorem wAtt_E {C : Expr -> Prop} (h : wAtt z k = true) (cc : ∀ e n p, k e n p = true -> C (.Attribute e n p)) : C z :=
 if q : z.ctorIdx = 20 then Expr.Attribute.elim (motive_1 := fun z => wAtt z k = true -> C z) z q cc h else absurd ((dif_neg q).symm.trans h) Bool.false_ne_true
noncomputable def wSub (z : Expr) (k : Expr -> Expr -> Pos -> Bool) : Bool := if h : z.ctorIdx = 21 then Expr.Subscript.elim (motive_1 := fun _ => Bool) z h k else false
@[elab_as_elim] theorem wSub_E {C : Expr -> Prop} (h : wSub z k = true) (cc : ∀ e s p, k e s p = true -> C (.Subscript e s p)) : C z :=
 if q : z.ctorIdx = 21 then Expr.Subscript.elim (motive_1 := fun z => wSub z k = true -> C z) z q cc h else absurd ((dif_neg q).symm.trans h) Bool.false_ne_true
noncomputable def wSli (z : Expr) (k : Option Expr -> Option Expr -> Option Expr -> Pos -> Bool) : Bool := if h : z.ctorIdx = 26 then Expr.Slice.elim (motive_1 := fun _ => Bool) z h k else false
@[elab_as_elim] theorem wSli_E {C : Expr -> Prop} (h : wSli z k = true) (cc : ∀ a b c p, k a b c p = true -> C (.Slice a b c p)) : C z :=
 if q : z.ctorIdx = 26 then Expr.Slice.elim (motive_1 := fun z => wSli z k = true -> C z) z q cc h else absurd ((dif_neg q).symm.trans h) Bool.false_ne_true
noncomputable def wLst (z : Expr) (k : List Expr -> Pos -> Bool) : Bool := if h : z.ctorIdx = 24 then Expr.List.elim (motive_1 := fun _ => Bool) z h k else false
@[elab_as_elim] theorem wLst_E {C : Expr -> Prop} (h : wLst z k = true) (cc : ∀ xs p, k xs p = true -> C (.List xs p)) : C z :=
 if q : z.ctorIdx = 24 then Expr.List.elim (motive_1 := fun z => wLst z k = true -> C z) z q cc h else absurd ((dif_neg q).symm.trans h) Bool.false_ne_true
noncomputable def wTup (z : Expr) (k : List Expr -> Nat -> Pos -> Bool) : Bool := if h : z.ctorIdx = 25 then Expr.Tuple.elim (motive_1 := fun _ => Bool) z h k else false
@[elab_as_elim] theorem wTup_E {C : Expr -> Prop} (h : wTup z k = true) (cc : ∀ xs n p, k xs n p = true -> C (.Tuple xs n p)) : C z :=
 if q : z.ctorIdx = 25 then Expr.Tuple.elim (motive_1 := fun z => wTup z k = true -> C z) z q cc h else absurd ((dif_neg q).symm.trans h) Bool.false_ne_true
theorem wTup_inv {z : Expr} {k : List Expr -> Nat -> Pos -> Bool} (h : wTup z k = true) : ∃ xs n p, z = .Tuple xs n p /\ k xs n p = true := wTup_E h fun xs n p h => ⟨xs, n, p, rfl, h⟩
noncomputable def wLc (z : Expr) (k : Expr -> List Comprehension -> Scope -> Pos -> Bool) : Bool := if h : z.ctorIdx = 8 then Expr.ListComp.elim (motive_1 := fun _ => Bool) z h k else false
@[elab_as_elim] theorem wLc_E {C : Expr -> Prop} (h : wLc z k = true) (cc : ∀ e gs sc p, k e gs sc p = true -> C (.ListComp e gs sc p)) : C z :=
 if q : z.ctorIdx = 8 then Expr.ListComp.elim (motive_1 := fun z => wLc z k = true -> C z) z q cc h else absurd ((dif_neg q).symm.trans h) Bool.false_ne_true
theorem wLc_inv {z : Expr} {k : Expr -> List Comprehension -> Scope -> Pos -> Bool} (h : wLc z k = true) : ∃ e gs sc p, z = .ListComp e gs sc p /\ k e gs sc p = true := wLc_E h fun e gs sc p h => ⟨e, gs, sc, p, rfl, h⟩
noncomputable def wGe (z : Expr) (k : Expr -> List Comprehension -> Scope -> Pos -> Bool) : Bool := if h : z.ctorIdx = 11 then Expr.GeneratorExp.elim (motive_1 := fun _ => Bool) z h k else false
@[elab_as_elim] theorem wGe_E {C : Expr -> Prop} (h : wGe z k = true) (cc : ∀ e gs sc p, k e gs sc p = true -> C (.GeneratorExp e gs sc p)) : C z :=
 if q : z.ctorIdx = 11 then Expr.GeneratorExp.elim (motive_1 := fun z => wGe z k = true -> C z) z q cc h else absurd ((dif_neg q).symm.trans h) Bool.false_ne_true
noncomputable def wDic (z : Expr) (k : List (Option Expr) -> List Expr -> Pos -> Bool) : Bool := if h : z.ctorIdx = 6 then Expr.Dict.elim (motive_1 := fun _ => Bool) z h k else false
@[elab_as_elim] theorem wDic_E {C : Expr -> Prop} (h : wDic z k = true) (cc : ∀ ks vs p, k ks vs p = true -> C (.Dict ks vs p)) : C z :=
 if q : z.ctorIdx = 6 then Expr.Dict.elim (motive_1 := fun z => wDic z k = true -> C z) z q cc h else absurd ((dif_neg q).symm.trans h) Bool.false_ne_true
noncomputable def wAsg (z : Stmt) (k : List Expr -> Expr -> Pos -> Bool) : Bool := if h : z.ctorIdx = 5 then Stmt.Assign.elim (motive_2 := fun _ => Bool) z h k else false
@[elab_as_elim] theorem wAsg_E {C : Stmt -> Prop} (h : wAsg z k = true) (cc : ∀ ts v p, k ts v p = true -> C (.Assign ts v p)) : C z :=
 if q : z.ctorIdx = 5 then Stmt.Assign.elim (motive_2 := fun z => wAsg z k = true -> C z) z q cc h else absurd ((dif_neg q).symm.trans h) Bool.false_ne_true
noncomputable def wAug (z : Stmt) (k : Expr -> Operator -> Expr -> Pos -> Bool) : Bool := if h : z.ctorIdx = 7 then Stmt.AugAssign.elim (motive_2 := fun _ => Bool) z h k else false
@[elab_as_elim] theorem wAug_E {C : Stmt -> Prop} (h : wAug z k = true) (cc : ∀ t op v p, k t op v p = true -> C (.AugAssign t op v p)) : C z :=
 if q : z.ctorIdx = 7 then Stmt.AugAssign.elim (motive_2 := fun z => wAug z k = true -> C z) z q cc h else absurd ((dif_neg q).symm.trans h) Bool.false_ne_true
noncomputable def wFor (z : Stmt) (k : Expr -> Expr -> List Stmt -> List Stmt -> Pos -> Bool) : Bool := if h : z.ctorIdx = 9 then Stmt.For.elim (motive_2 := fun _ => Bool) z h k else false
@[elab_as_elim] theorem wFor_E {C : Stmt -> Prop} (h : wFor z k = true) (cc : ∀ t it b o p, k t it b o p = true -> C (.For t it b o p)) : C z :=
 if q : z.ctorIdx = 9 then Stmt.For.elim (motive_2 := fun z => wFor z k = true -> C z) z q cc h else absurd ((dif_neg q).symm.trans h) Bool.false_ne_true
noncomputable def wWhi (z : Stmt) (k : Expr -> List Stmt -> List Stmt -> Pos -> Bool) : Bool := if h : z.ctorIdx = 11 then Stmt.While.elim (motive_2 := fun _ => Bool) z h k else false
@[elab_as_elim] theorem wWhi_E {C : Stmt -> Prop} (h : wWhi z k = true) (cc : ∀ t b o p, k t b o p = true -> C (.While t b o p)) : C z :=
 if q : z.ctorIdx = 11 then Stmt.While.elim (motive_2 := fun z => wWhi z k = true -> C z) z q cc h else absurd ((dif_neg q).symm.trans h) Bool.false_ne_true
noncomputable def wIf (z : Stmt) (k : Expr -> List Stmt -> List Stmt -> Pos -> Bool) : Bool := if h : z.ctorIdx = 12 then Stmt.If.elim (motive_2 := fun _ => Bool) z h k else false
@[elab_as_elim] theorem wIf_E {C : Stmt -> Prop} (h : wIf z k = true) (cc : ∀ t b o p, k t b o p = true -> C (.If t b o p)) : C z :=
 if q : z.ctorIdx = 12 then Stmt.If.elim (motive_2 := fun z => wIf z k = true -> C z) z q cc h else absurd ((dif_neg q).symm.trans h) Bool.false_ne_true
noncomputable def wRet (z : Stmt) (k : Option Expr -> Pos -> Bool) : Bool := if h : z.ctorIdx = 3 then Stmt.Return.elim (motive_2 := fun _ => Bool) z h k else false
@[elab_as_elim] theorem wRet_E {C : Stmt -> Prop} (h : wRet z k = true) (cc : ∀ v p, k v p = true -> C (.Return v p)) : C z :=
 if q : z.ctorIdx = 3 then Stmt.Return.elim (motive_2 := fun z => wRet z k = true -> C z) z q cc h else absurd ((dif_neg q).symm.trans h) Bool.false_ne_true
noncomputable def wExp (z : Stmt) (k : Expr -> Pos -> Bool) : Bool := if h : z.ctorIdx = 24 then Stmt.Expr.elim (motive_2 := fun _ => Bool) z h k else false
@[elab_as_elim] theorem wExp_E {C : Stmt -> Prop} (h : wExp z k = true) (cc : ∀ e p, k e p = true -> C (.Expr e p)) : C z :=
 if q : z.ctorIdx = 24 then Stmt.Expr.elim (motive_2 := fun z => wExp z k = true -> C z) z q cc h else absurd ((dif_neg q).symm.trans h) Bool.false_ne_true
noncomputable def wRai (z : Stmt) (k : Option Expr -> Option Expr -> Pos -> Bool) : Bool := if h : z.ctorIdx = 16 then Stmt.Raise.elim (motive_2 := fun _ => Bool) z h k else false
@[elab_as_elim] theorem wRai_E {C : Stmt -> Prop} (h : wRai z k = true) (cc : ∀ e c p, k e c p = true -> C (.Raise e c p)) : C z :=
 if q : z.ctorIdx = 16 then Stmt.Raise.elim (motive_2 := fun z => wRai z k = true -> C z) z q cc h else absurd ((dif_neg q).symm.trans h) Bool.false_ne_true
noncomputable def wTry (z : Stmt) (k : List Stmt -> List ExceptHandler -> List Stmt -> List Stmt -> Pos -> Bool) : Bool := if h : z.ctorIdx = 17 then Stmt.Try.elim (motive_2 := fun _ => Bool) z h k else false
@[elab_as_elim] theorem wTry_E {C : Stmt -> Prop} (h : wTry z k = true) (cc : ∀ b hs o f p, k b hs o f p = true -> C (.Try b hs o f p)) : C z :=
 if q : z.ctorIdx = 17 then Stmt.Try.elim (motive_2 := fun z => wTry z k = true -> C z) z q cc h else absurd ((dif_neg q).symm.trans h) Bool.false_ne_true
noncomputable def wBrk (z : Stmt) (k : Pos -> Bool) : Bool := if h : z.ctorIdx = 26 then Stmt.Break.elim (motive_2 := fun _ => Bool) z h k else false
@[elab_as_elim] theorem wBrk_E {C : Stmt -> Prop} (h : wBrk z k = true) (cc : ∀ p, k p = true -> C (.Break p)) : C z :=
 if q : z.ctorIdx = 26 then Stmt.Break.elim (motive_2 := fun z => wBrk z k = true -> C z) z q cc h else absurd ((dif_neg q).symm.trans h) Bool.false_ne_true
noncomputable def w0 {α : Type} (l : List α) (b : Bool) : Bool := match l with
 | [] => b
 | _ :: _ => false
noncomputable def w1 {α : Type} (l : List α) (k : α -> Bool) : Bool := match l with
 | [] => false
 | x :: r => w0 r (k x)
noncomputable def w2 {α : Type} (l : List α) (k : α -> α -> Bool) : Bool := match l with
 | [] => false
 | x :: r => w1 r (k x)
noncomputable def w3 {α : Type} (l : List α) (k : α -> α -> α -> Bool) : Bool := match l with
 | [] => false
 | x :: r => w2 r (k x)
section
variable {α : Type} {l : List α} {C : List α -> Prop}
@[elab_as_elim] theorem w0_E (h : w0 l b = true) (cc : b = true -> C []) : C l := by
 cases l with
 | nil => exact cc h
 | cons => exact nomatch h
@[elab_as_elim] theorem w1_E (h : w1 l k = true) (cc : ∀ x, k x = true -> C [x]) : C l := by
 cases l with
 | nil => exact nomatch h
 | cons x r => exact w0_E (C := fun r => C (x :: r)) h (cc x)
@[elab_as_elim] theorem w2_E (h : w2 l k = true) (cc : ∀ x y, k x y = true -> C [x, y]) : C l := by
 cases l with
 | nil => exact nomatch h
 | cons x r => exact w1_E (C := fun r => C (x :: r)) h (cc x)
@[elab_as_elim] theorem w3_E (h : w3 l k = true) (cc : ∀ x y z, k x y z = true -> C [x, y, z]) : C l := by
 cases l with
 | nil => exact nomatch h
 | cons x r => exact w2_E (C := fun r => C (x :: r)) h (cc x)
end
theorem w0_inv (h : w0 l b = true) : l = [] /\ b = true := w0_E h fun h => ⟨rfl, h⟩
theorem w1_inv (h : w1 l k = true) : ∃ x, l = [x] /\ k x = true := w1_E h fun x h => ⟨x, rfl, h⟩
theorem w2_inv (h : w2 l k = true) : ∃ x y, l = [x, y] /\ k x y = true := w2_E h fun x y h => ⟨x, y, rfl, h⟩
theorem w3_inv (h : w3 l k = true) : ∃ x y z, l = [x, y, z] /\ k x y z = true := w3_E h fun x y z h => ⟨x, y, z, rfl, h⟩
noncomputable def wCons {α : Type} (l : List α) (k : α -> List α -> Bool) : Bool := match l with
 | [] => false
 | x :: r => k x r
@[elab_as_elim] theorem wCons_E {C : List α -> Prop} (h : wCons l k = true) (cc : ∀ x r, k x r = true -> C (x :: r)) : C l := by
 cases l with
 | nil => exact nomatch h
 | cons x r => exact cc x r h
theorem wCons_inv {α : Type} {l : List α} {k : α -> List α -> Bool} (h : wCons l k = true) : ∃ x r, l = x :: r /\ k x r = true := wCons_E h fun x r h => ⟨x, r, rfl, h⟩
noncomputable def wEh (z : ExceptHandler) (k : Option Expr -> Option Str -> List Stmt -> Pos -> Bool) : Bool := match z with
 | .ExceptHandler a b c p => k a b c p
@[elab_as_elim] theorem wEh_E {C : ExceptHandler -> Prop} (h : wEh z k = true) (cc : ∀ a b c p, k a b c p = true -> C (.ExceptHandler a b c p)) : C z := by
 cases z with | ExceptHandler a b c p => exact cc a b c p h
noncomputable def wSome {α : Type} (o : Option α) (k : α -> Bool) : Bool := match o with
 | some x => k x
 | none => false
@[elab_as_elim] theorem wSome_E {C : Option α -> Prop} (h : wSome o k = true) (cc : ∀ x, k x = true -> C (some x)) : C o := by
 cases o with
 | none => exact nomatch h
 | some x => exact cc x h
noncomputable def wNone {α : Type} (o : Option α) (b : Bool) : Bool := match o with
 | some _ => false
 | none => b
@[elab_as_elim] theorem wNone_E {C : Option α -> Prop} (h : wNone o b = true) (cc : b = true -> C none) : C o := by
 cases o with
 | none => exact cc h
 | some x => exact nomatch h
noncomputable def notSuper (e : Expr) : Bool := wName e (fun _ _ => true) || (wSub e (fun _ _ _ => true) || (wConst e (fun _ _ _ => true) || wCall e fun f as _ _ => wName f fun _ _ => wCons as fun _ _ => true))
theorem and3 (h : (a && b) = true) : a = true /\ b = true := Bool.and_eq_true_iff.mp h
theorem not_t : {a : Bool} -> (!a) = true -> a = false
 | false, _ => rfl
 | true, h => absurd h Bool.false_ne_true
mutual
noncomputable def mE (names : List (Str × NameKind)) : CE -> Expr -> Bool
 | .lit k, e => wConst e fun k' _ _ => decide (k = k')
 | .var x, e => wName e fun n _ => isNm x n
 | .own x, e => wName e fun n _ => isNm x n
 | .glob x, e => wName e fun n _ => isNm x n && names.lookup n == some .globalImplicit
 | .bin op a b, e => wBin e fun l op' r _ => op == op' && mE names a l && mE names b r && !b.isOwn
 | .neg a, e => wUn e fun op x _ => op == .USub && mE names a x && !a.isOwn
 | .not a, e => wUn e fun op x _ => op == .Not && mE names a x && !a.isOwn
 | .bop op es, e => wBop e fun op' vs _ => op == op' && mL names es vs
 | .ite t a b, e => wIte e fun t' a' b' _ => mE names t t' && mE names a a' && mE names b b' && !t.isOwn && !a.isOwn && !b.isOwn
 | .cmp op a b, e => wCmp e fun l ops cs _ => w1 ops fun op' => w1 cs fun r => op == op' && mE names a l && mE names b r && !a.isOwn && !b.isOwn && !isSet r
 | .call f as, e => wCall e fun g args ks _ => w0 ks (wName g fun _ _ => mE names f g && mL names as args && !f.isOwn)
 | .meth o m as, e => wCall e fun g args ks pos => w0 ks (wAtt g fun e n apos => n == ofString m && mE names o e && mL names as args && !o.isOwn && notSuper e && decide (args.length < 20) && apos.endLine == pos.line)
 | .attr o m, e => wAtt e fun e n _ => n == ofString m && mE names o e && notSuper e
 | .item o i, e => wSub e fun e s _ => mE names o e && mE names i s && !i.isOwn
 | .slice o l u st, e => wSub e fun e s _ => wSli s fun a b c _ => mE names o e && mO names l a && mO names u b && mO names st c
 | .list es, e => wLst e fun xs _ => mL names es xs
 | .tup es, e => wTup e fun xs _ _ => mL names es xs
 | .comp elt x it ifs caps, e => wLc e fun e gs sc _ => w1 gs fun g => wName g.target fun n _ => g.is_async == 0 && isNm x n && mI names it g.iter && scopeOk names sc [x] caps &&
   mE (relab names sc.names) elt e && mL (relab names sc.names) ifs g.ifs && !elt.isOwn
 | .compP elt x y a b ifs caps, e => wLc e fun e gs sc _ => w1 gs fun g => wTup g.target fun ts _ _ => w2 ts fun t1 t2 => wName t1 fun n _ => wName t2 fun n' _ => wCall g.iter fun f as ks _ => w0 ks (w2 as fun ea eb => wName f fun z _ =>
   g.is_async == 0 && isNm x n && isNm y n' && x != y &&
   isNm "zip" z && names.lookup z == some .globalImplicit && mE names a ea && mE names b eb && !a.isOwn && !b.isOwn && scopeOk names sc [x, y] caps &&
   mE (relab names sc.names) elt e && mL (relab names sc.names) ifs g.ifs && !elt.isOwn)
 | .lenO x, e => wCall e fun g args ks _ => w0 ks (w1 args fun a => wName g fun z _ => wName a fun n _ => isNm "len" z && names.lookup z == some .globalImplicit && isNm x n)
noncomputable def mL (names : List (Str × NameKind)) : CL -> List Expr -> Bool
 | .nil, l => w0 l true
 | .cons e r, l => match l with
  | [] => false
  | x :: xs => mE names e x && !e.isOwn && mL names r xs
noncomputable def mO (names : List (Str × NameKind)) : CO -> Option Expr -> Bool
 | .no, o => wNone o true
 | .yes e, o => wSome o fun x => mE names e x && !e.isOwn
noncomputable def mI (names : List (Str × NameKind)) : CI -> Expr -> Bool
 | .over e, x => mE names e x && !isSet x
 | .rng1 e, x => wCall x fun g args ks _ => w0 ks (w1 args fun x => wName g fun z _ => isNm "range" z && names.lookup z == some .globalImplicit && mE names e x && !e.isOwn)
 | .rng2 a b, x => wCall x fun g args ks _ => w0 ks (w2 args fun x y => wName g fun z _ => isNm "range" z && names.lookup z == some .globalImplicit && mE names a x && mE names b y && !a.isOwn && !b.isOwn)
end
noncomputable abbrev FF : Value -> Shared -> Prop := fun _ _ => False
structure Ok (hT : Heap) (X : Addr -> Prop) (s : Shared) : Prop where
 base : ∀ a o, hT.get? a = some o -> s.heap.get? a = some o
 off : ∀ a, X a -> hT.get? a = none
 live : ∀ a, X a -> ∃ o, s.heap.get? a = some o
noncomputable def RdA (P : Params) (h : Heap) (X : Addr -> Prop) (d : D) (v : Value) : Prop := Rd P h X d v \/ ∃ r, OwnRd P h X d v r
noncomputable def Post (P : Params) (X : Addr -> Prop) (s : Shared) (K : D -> Prop) (v : Value) (s' : Shared) : Prop := Keeps s s' /\ ∃ d, K d /\ Rd P s'.heap X d v
noncomputable def Fresh (s : Shared) (v : Value) (d : D) : Prop := ∀ ds, d = .list ds -> ∀ a, v = .ref a -> s.heap.get? a = none
noncomputable def PostF (P : Params) (X : Addr -> Prop) (s : Shared) (K : D -> Prop) (v : Value) (s' : Shared) : Prop := Keeps s s' /\ ∃ d, K d /\ Rd P s'.heap X d v /\ Fresh s v d
noncomputable def Upd1 (r : Addr) (s s' : Shared) : Prop := ∃ h' tk, s' = { s with heap := h', toks := tk } /\ ∀ b o, b ≠ r -> s.heap.get? b = some o -> h'.get? b = some o
structure CxOK (prog : Program) (w : World) (hT : Heap) (c : Cx) (A : Around) : Prop where
 hh : A.handled = none
 main : ∃ o, hT.get? mainGlobals = some o
 glob : ∀ x d, c.glob.lookup x = some d -> ∃ v, Rd w.params hT (fun a => hT.get? a = none) d v /\ ∀ env s (Q : Value -> Shared -> Prop), (∀ a o, hT.get? a = some o -> s.heap.get? a = some o) ->
  env.scope.kind = .function -> env.globals = mainGlobals -> env.builtins = builtinsNs -> env.kindOf (ofString x) = some .globalImplicit -> Q v s -> wpAny (model prog w) A (loadName env (ofString x)) Q FF s
 bin : ∀ op a b K X s va vb, Ok hT X s -> c.bin op a b K -> RdA w.params s.heap X a va -> Rd w.params s.heap X b vb -> wpAny (model prog w) A (binaryOp op va vb) (PostF w.params X s K) FF s
 aug : ∀ op a b K X s va vb, Ok hT X s -> c.aug op a b K -> Rd w.params s.heap X a va -> Rd w.params s.heap X b vb -> wpAny (model prog w) A (inplaceOp op va vb) (Post w.params X s K) FF s
 cmp : ∀ op a b K X s va vb, Ok hT X s -> c.cmp op a b K -> Rd w.params s.heap X a va -> Rd w.params s.heap X b vb -> wpAny (model prog w) A (compareOp op va vb) (Post w.params X s K) FF s
 item : ∀ a b K X s va vb, Ok hT X s -> c.item a b K -> RdA w.params s.heap X a va -> Rd w.params s.heap X b vb ->
  ∃ T id, s.TypeIs va T /\ typeLookup (.type T) "__getitem__" = pure (some (.builtin id)) /\ wpAny (model prog w) A (getItem va vb) (Post w.params X s K) FF s
 slice : ∀ a l u st K X s va vl vu vst, Ok hT X s -> c.slice a l u st K -> RdA w.params s.heap X a va -> Rd w.params s.heap X (l.getD .none) vl -> Rd w.params s.heap X (u.getD .none) vu -> Rd w.params s.heap X (st.getD .none) vst ->
  ∃ T id, s.TypeIs va T /\ typeLookup (.type T) "__getitem__" = pure (some (.builtin id)) /\
   ∀ sl s', Keeps s s' -> s'.heap.IsSliceOf sl vl vu vst -> wpAny (model prog w) A (getItem va (.ref sl)) (PostF w.params X s' K) FF s'
 fn : ∀ v ds K X s vs, Ok hT X s -> c.fn v ds K -> Rds w.params s.heap X ds vs -> wpAny (model prog w) A (call v vs) (Post w.params X s K) FF s
 keeper : ∀ v, c.isFn v = true -> ∀ h, (∀ a o, hT.get? a = some o -> h.get? a = some o) -> ∃ k, (k = Keeper.frame \/ k = Keeper.machine \/ k = Keeper.boundFrame) /\ Looks (model prog w) h (keeperOf v) k
 meth : ∀ d name f, c.meth d name = some f -> ∀ X s v pl (Q : Value × List Value -> Shared -> Prop), Ok hT X s -> Rd w.params s.heap X d v -> Q (f, [v]) s -> wpAny (model prog w) A (getMethod v (ofString name) pl) Q FF s
 attr : ∀ d name K X s v, Ok hT X s -> c.attr d name K -> RdA w.params s.heap X d v -> wpAny (model prog w) A (getAttr v (ofString name) true) (Post w.params X s K) FF s
 len : ∀ d K X s v r, Ok hT X s -> c.len d K -> OwnRd w.params s.heap X d v r -> wpAny (model prog w) A (call (.builtin "len") [v]) (Post w.params X s K) FF s
 mutM : ∀ m d id X s v r pl (Q : Value × List Value -> Shared -> Prop), Ok hT X s -> c.mutId m d = some id -> OwnRd w.params s.heap X d v r -> Q (.builtin id, [v]) s -> wpAny (model prog w) A (getMethod v (ofString m) pl) Q FF s
 mutW : ∀ m d id ds K X s v r vs, Ok hT X s -> c.mutId m d = some id -> c.mutW m d ds K -> OwnRd w.params s.heap X d v r -> Rds w.params s.heap X ds vs ->
  wpAny (model prog w) A (call (.builtin id) (v :: vs)) (fun _ s' => Upd1 r s s' /\ ∃ d', K d' /\ OwnRd w.params s'.heap X d' v r) FF s
 setI : ∀ d i e K X s v r vi ve, Ok hT X s -> c.setI d i e K -> OwnRd w.params s.heap X d v r -> Rd w.params s.heap X i vi -> Rd w.params s.heap X e ve ->
  wpAny (model prog w) A (setItem v vi ve) (fun _ s' => Upd1 r s s' /\ ∃ d', K d' /\ OwnRd w.params s'.heap X d' v r) FF s
 setA : ∀ d a e K X s v r ve, Ok hT X s -> c.setA d a e K -> OwnRd w.params s.heap X d v r -> Rd w.params s.heap X e ve ->
  wpAny (model prog w) A (setAttr v (ofString a) ve) (fun _ s' => Upd1 r s s' /\ ∃ d', K d' /\ OwnRd w.params s'.heap X d' v r) FF s
 units : A.units + 100 < cLine
 gZip : c.glob.lookup "zip" = some (.val (.type "zip"))
 gRange : c.glob.lookup "range" = some (.val (.type "range"))
 gLen : c.glob.lookup "len" = some (.val (.builtin "len"))
theorem kr (s : Shared) : Keeps s s := ⟨s.heap, s.toks, rfl, fun _ _ e => e⟩
theorem kt (a : Keeps s s') (b : Keeps s' s'') : Keeps s s'' := by
 refine xEEA a fun h t z1q k => ?_; (try clear a); obtain rfl := z1q
 refine xEEA b fun h' t' z1q k' => ?_; (try clear b); obtain rfl := z1q
 exact ⟨h', t', rfl, fun b o e => k' b o (k b o e)⟩
theorem kh (a : Keeps s s') : ∀ b o, s.heap.get? b = some o -> s'.heap.get? b = some o := by
 apply xEEAq1L a; intro h t k; (try clear a)
 exact k
theorem ktok (s : Shared) (t : Nat) : Keeps s { s with toks := t } := ⟨s.heap, t, rfl, fun _ _ e => e⟩
theorem kpush (s : Shared) (o : Obj) : Keeps s { s with heap := s.heap.push o } := ⟨_, s.toks, rfl, fun _ _ e => Heap.get?_push_of_some _ e⟩
theorem St.ok (S : St P hT env X₀ X ρ s.heap) : Ok hT X s := ⟨S.base, S.off, S.live⟩
theorem Ok.keeps (o : Ok hT X s) (k : Keeps s s') : Ok hT X s' := ⟨fun a b e => kh k _ _ (o.base a b e), o.off, fun a x => let ⟨b, e⟩ := o.live a x; ⟨b, kh k _ _ e⟩⟩
theorem Ok.fresh (o : Ok hT X s) : ¬ X s.heap.objs.size := fun x => let ⟨_, e⟩ := o.live _ x; Nat.lt_irrefl _ (Heap.lt_size e)
theorem Fresh.keeps (f : Fresh s' v d) (k : Keeps s s') : Fresh s v d := fun ds e a ea => by
 cases q : s.heap.get? a with
 | none => rfl
 | some o => have := f ds e a ea; exact clash this (kh k _ _ q)
section
variable {prog : Program} {w : World} {hT : Heap} {c : Cx} {A : Around}
noncomputable def D.ownable : D -> Bool
 | .list _ | .dict .. | .inst .. => true
 | _ => false
theorem OwnRd.kind (o : OwnRd P h X d v r) : d.ownable = true := by cases o <;> rfl
theorem RdA.flat (r : RdA P h X d v) (hd : d.ownable = false) : Rd P h X d v := r.elim id fun ⟨_, q⟩ => absurd (q.kind.symm.trans hd) Bool.noConfusion
@[elab_as_elim] theorem RdA.rawE {C : Value -> Prop} (r : RdA P h X (.list ds) v) (c : ∀ a vs n, h.get? a = some (listOf vs n) -> Rds P h X ds vs.toList -> C (.ref a)) : C v :=
 Or.elim r (fun q => q.listE fun a vs n _ ho hr => c a vs n ho hr) fun ⟨_, q⟩ => q.listE (C := fun v _ => C v) fun a vs n _ ho hr => c a vs n ho hr
@[elab_as_elim] theorem RdA.tupE {C : Value -> Prop} (r : RdA P h X (.tup ds) v) (c : ∀ a vs n, h.get? a = some (tupOf vs n) -> Rds P h X ds vs.toList -> C (.ref a)) : C v :=
 (r.flat rfl).tupE fun a vs n _ ho hr => c a vs n ho hr
@[elab_as_elim] theorem RdA.dictE {C : Value -> Prop} (r : RdA P h X (.dict ks ds) v) (c : ∀ a es n, (a == sysModules) = false -> h.get? a = some (dictOf es n) -> KeysAre P ks es -> Rds P h X ds (es.map (·.val)) -> C (.ref a)) : C v :=
 Or.elim r (fun q => q.dictE fun a es n hs _ ho hk hr => c a es n hs ho hk hr) fun ⟨_, q⟩ => q.dictE (C := fun v _ => C v) fun a es n hs _ ho hk hr => c a es n hs ho hk hr
@[elab_as_elim] theorem RdA.instE {P h X K ks ds v} {C : Value -> Prop} (r : RdA P h X (.inst K ks ds) v) (c : ∀ a dx es n, h.get? a = some (instObj K dx) -> h.get? dx = some (dictOf es n) -> KeysAre P ks es -> Rds P h X ds (es.map (·.val)) -> C (.ref a)) : C v :=
 Or.elim r (fun q => q.instE fun a dx es n _ _ h1 h2 hk hr => c a dx es n h1 h2 hk hr) fun ⟨_, q⟩ => q.instE (C := fun v _ => C v) fun a dx es n _ _ h1 h2 hk hr => c a dx es n h1 h2 hk hr
noncomputable def RdE (P : Params) (h : Heap) (X : Addr -> Prop) (e : CE) (d : D) (v : Value) : Prop := if e.isOwn = true then RdA P h X d v else Rd P h X d v
theorem RdE.rd (r : RdE P h X e d v) (ho : e.isOwn = false) : Rd P h X d v := by unfold RdE at r; rw [ho] at r; exact r
theorem RdE.any (r : RdE P h X e d v) : RdA P h X d v := by
 unfold RdE at r; split at r
 ·exact r
 ·exact .inl r
theorem RdE.of (r : Rd P h X d v) : RdE P h X e d v := by
 unfold RdE; split
 ·exact .inl r
 ·exact r
theorem RdA.keeps (r : RdA P h X d v) (hk : ∀ a o, h.get? a = some o -> h'.get? a = some o) : RdA P h' X d v := r.imp (·.keeps hk) fun ⟨q, o⟩ => ⟨q, o.keeps hk⟩
noncomputable def EvP (P : Params) (X : Addr -> Prop) (s : Shared) (e : CE) (K : D -> Prop) (v : Value) (s' : Shared) : Prop :=
 Keeps s s' /\ ∃ d, K d /\ RdE P s'.heap X e d v /\ (e.fresh = true -> Fresh s v d)
noncomputable def EvS (prog : Program) (w : World) (hT : Heap) (c : Cx) (A : Around) (e : CE) : Prop := ∀ names ex env ρ X₀ X s K, mE names e ex = true -> env.scope.names = names -> St w.params hT env X₀ X ρ s.heap -> evW c ρ e K ->
 wpAny (model prog w) A (eval ex env) (EvP w.params X s e K) FF s
noncomputable def IsS (prog : Program) (w : World) (hT : Heap) (c : Cx) (A : Around) (e : CE) : Prop := ∀ names ex env ρ X₀ X s K, mE names e ex = true -> e.isOwn = false -> env.scope.names = names -> St w.params hT env X₀ X ρ s.heap -> evW c ρ e (onBool K) ->
 wpAny (model prog w) A (isTrue ex env (eval ex env)) (fun b s' => Keeps s s' /\ K b) FF s
noncomputable def EsS (prog : Program) (w : World) (hT : Heap) (c : Cx) (A : Around) (es : CL) : Prop := ∀ names xs env ρ X₀ X s K pos, mL names es xs = true -> env.scope.names = names -> St w.params hT env X₀ X ρ s.heap -> evsW c ρ es K ->
 wpAny (model prog w) A (spliced (backTo pos (starEach xs env))) (fun vs s' => Keeps s s' /\ ∃ ds, K ds /\ Rds w.params s'.heap X ds vs) FF s
theorem St.to (S : St P hT env X₀ X ρ s.heap) (k : Keeps s s') : St P hT env X₀ X ρ s'.heap := S.keeps (kh k)
theorem fresh_no {e : CE} {P : Prop} (h : e.fresh = false) : e.fresh = true -> P := fun x => by rw [h] at x; injection x
theorem EvS.use (H : EvS prog w hT c A e) {K : D -> Prop} (hm : mE names e ex = true) (hn : env.scope.names = names) (S : St w.params hT env X₀ X ρ s.heap)
  (hw : evW c ρ e K) (h : ∀ v s' d, Keeps s s' -> St w.params hT env X₀ X ρ s'.heap -> K d -> RdE w.params s'.heap X e d v -> (e.fresh = true -> Fresh s v d) -> Q v s') : wpAny (model prog w) A (eval ex env) Q FF s :=
 wpAny_mono (H names ex env ρ X₀ X s K hm hn S hw) (fun v s' ⟨k, d, hK, hr, hf⟩ => h v s' d k (S.to k) hK hr hf) (fun _ _ f => f)
theorem IsS.use (H : IsS prog w hT c A e) {K : Bool -> Prop} (hm : mE names e ex = true) (ho : e.isOwn = false) (hn : env.scope.names = names) (S : St w.params hT env X₀ X ρ s.heap)
  (hw : evW c ρ e (onBool K)) (h : ∀ b s', Keeps s s' -> St w.params hT env X₀ X ρ s'.heap -> K b -> Q b s') : wpAny (model prog w) A (isTrue ex env (eval ex env)) Q FF s :=
 wpAny_mono (H names ex env ρ X₀ X s K hm ho hn S hw) (fun v s' ⟨k, hK⟩ => h v s' k (S.to k) hK) (fun _ _ f => f)
theorem EsS.use (H : EsS prog w hT c A es) {K : List D -> Prop} (hm : mL names es xs = true) (hn : env.scope.names = names) (S : St w.params hT env X₀ X ρ s.heap)
  (hw : evsW c ρ es K) (h : ∀ vs s' ds, Keeps s s' -> St w.params hT env X₀ X ρ s'.heap -> K ds -> Rds w.params s'.heap X ds vs -> Q vs s') : wpAny (model prog w) A (spliced (backTo pos (starEach xs env))) Q FF s :=
 wpAny_mono (H names xs env ρ X₀ X s K pos hm hn S hw) (fun v s' ⟨k, d, hK, hr⟩ => h v s' d k (S.to k) hK hr) (fun _ _ f => f)
theorem nm_ok (h : isNm x n = true) : n = ofString x /\ (n == ("__debug__" : Str)) = false /\ (n == ("__classdict__" : Str)) = false := by
 unfold isNm at h
 refine an3 h fun h1 h2 h3 => ?_
 exact ⟨beq_iff_eq.mp h1, not_t h2, not_t h3⟩
theorem ev_lit {k : Const} : EvS prog w hT c A (.lit k) := by
 intro names ex env ρ X₀ X s K hm hn S hw
 refine wConst_E hm fun k' kk pos hm => ?_
 obtain rfl := of_decide_eq_true hm
 dsimp only [evW] at hw
 cases k <;> simp only [litD] at hw <;> first | exact hw.elim | skip
 ·exact wpAny_Constant_none ⟨kr s, _, hw, RdE.of .none, fresh_no rfl⟩
 ·exact wpAny_Constant_bool ⟨kr s, _, hw, RdE.of (.bool _), fresh_no rfl⟩
 ·exact wpAny_Constant_int ⟨ktok s _, _, hw, RdE.of (.int _ _), fresh_no rfl⟩
 ·exact wpAny_Constant_str ⟨ktok s _, _, hw, RdE.of (.str _ _), fresh_no rfl⟩
theorem load_var (hx : isNm x n = true) (S : St w.params hT env X₀ X ρ s.heap) (hl : ρ.lookup x = some e)
  (h : ∀ v r, EntRd w.params s.heap X e v r -> Q v s) : wpAny (model prog w) A (eval (.Name n pos) env) Q FF s := by
 refine xAA (nm_ok hx) fun z1q hd hc => ?_; obtain rfl := z1q
 refine xEEAAA S.vars fun m κ hns hv _ _ => ?_
 refine xEA (hv x e hl) fun v hva hr => ?_
 rcases hva with ⟨hk, hmx⟩ | ⟨hk | hk, cc, hcc, hcell⟩
 ·exact wpAny_Name (wpAny_loadName_local S.fn hk hns hmx (h v _ hr)) hd
 ·exact wpAny_Name (wpAny_loadName_cell S.fn hk hcc hcell (h v _ hr)) hd
 ·exact wpAny_Name (wpAny_loadName_free S.fn hk hcc hcell (h v _ hr) hc) hd
theorem ev_var {x : String} : EvS prog w hT c A (.var x) := by
 intro names ex env ρ X₀ X s K hm hn S hw
 refine wName_E hm fun n pos hm => ?_
 dsimp only [evW] at hw
 cases hl : ρ.lookup x with
 | none => rw [hl] at hw; exact hw.elim
 | some e =>
  rw [hl] at hw
  cases e with
  | own d => exact hw.elim
  | v d => exact load_var hm S hl fun v r hr => ⟨kr s, d, hw, RdE.of hr, fresh_no rfl⟩
theorem ev_own {x : String} : EvS prog w hT c A (.own x) := by
 intro names ex env ρ X₀ X s K hm hn S hw
 refine wName_E hm fun n pos hm => ?_
 dsimp only [evW] at hw
 cases hl : ρ.lookup x with
 | none => rw [hl] at hw; exact hw.elim
 | some e =>
  rw [hl] at hw
  cases e with
  | v d => exact hw.elim
  | own d => exact load_var hm S hl fun v r hr => ⟨kr s, d, hw, .inr ⟨r, hr⟩, fresh_no rfl⟩
theorem glob_rd (o : Ok hT X s) (r : Rd w.params hT (fun a => hT.get? a = none) d v) : Rd w.params s.heap X d v :=
 r.move (fun a b _ e => o.base a b e) (fun a _ _ x => o.off a x)
theorem load_glob (C : CxOK prog w hT c A) (hx : isNm x n = true) (hg : (names.lookup n == some NameKind.globalImplicit) = true)
  (hn : env.scope.names = names) (S : St w.params hT env X₀ X ρ s.heap) (hl : c.glob.lookup x = some d)
  (h : ∀ v, Rd w.params s.heap X d v -> Q v s) : wpAny (model prog w) A (eval (.Name n pos) env) Q FF s := by
 refine xAA (nm_ok hx) fun z1q hd _ => ?_; obtain rfl := z1q
 refine xEA (C.glob x d hl) fun v hr hload => ?_
 exact wpAny_Name (hload env s Q S.base S.fn S.glob S.blt (by unfold Env.kindOf; refine rwG hn ?_; exact beq_iff_eq.mp hg) (h v (glob_rd S.ok hr))) hd
theorem ev_glob (C : CxOK prog w hT c A) {x : String} : EvS prog w hT c A (.glob x) := by
 intro names ex env ρ X₀ X s K hm hn S hw
 refine wName_E hm fun n pos hm => ?_
 dsimp only [evW] at hw
 refine xA (and3 hm) fun hx hg => ?_
 cases hl : c.glob.lookup x with
 | none => rw [hl] at hw; exact hw.elim
 | some d =>
  rw [hl] at hw
  exact load_glob C hx hg hn S hl fun v hr => ⟨kr s, d, hw, RdE.of hr, fresh_no rfl⟩
theorem ev_bin (C : CxOK prog w hT c A) {op : Operator} {a b : CE} (ha : EvS prog w hT c A a) (hb : EvS prog w hT c A b) : EvS prog w hT c A (.bin op a b) := by
 intro names ex env ρ X₀ X s K hm hn S hw
 refine wBin_E hm fun l op' r pos hm => ?_
 refine an4 hm fun h1 h2 h3 h4 => ?_
 obtain rfl := eq_of_beq h1
 refine wpAny_BinOp (ha.use h2 hn S hw fun v s₁ d k S₁ hK hr _ => hb.use h3 hn S₁ hK fun v₂ s₂ d₂ k₂ S₂ hK₂ hr₂ _ => ?_)
 refine wpAny_mono (C.bin op d d₂ K X s₂ v v₂ S₂.ok hK₂ (hr.any.keeps (kh k₂)) (hr₂.rd (not_t h4))) (fun v' s' ⟨k', d', q, r, f⟩ => ?_) (fun _ _ f => f)
 exact ⟨kt k (kt k₂ k'), d', q, RdE.of r, fun _ => f.keeps (kt k k₂)⟩
@[elab_as_elim] theorem isI_E {K : Int -> Prop} {C : Value -> Prop} (q : isI K d) (r : Rd P h X d v) (c : ∀ i t, K i -> C (.int i t)) : C v := by
 cases d <;> first | exact q.elim | exact r.intE fun t => c _ t q
@[elab_as_elim] theorem isL_E {K : List D -> Prop} {C : Value -> Prop} (q : isL K d) (r : Rd P h X d v) (c : ∀ ds a vs n, K ds -> h.get? a = some (listOf vs n) -> Rds P h X ds vs.toList -> C (.ref a)) : C v := by
 cases d <;> first | exact q.elim | exact r.listE fun a vs n _ ho hr => c _ a vs n q ho hr
theorem ev_neg {a : CE} (ha : EvS prog w hT c A a) : EvS prog w hT c A (.neg a) := by
 intro names ex env ρ X₀ X s K hm hn S hw
 refine wUn_E hm fun op x pos hm => ?_
 refine an3 hm fun h1 h2 h3 => ?_
 obtain rfl := eq_of_beq h1
 refine wpAny_UnaryOp (ha.use h2 hn S hw fun v s₁ d k S₁ hK hr _ => ?_)
 exact isI_E hK (hr.rd (not_t h3)) fun i t hK => P.neg_int ⟨kt k (ktok _ _), _, hK, RdE.of (.int _ _), fresh_no rfl⟩
theorem on_bool {P h X K d v} (h1 : onBool K d) (r : Rd P h X d v) : ∃ b, v = .bool b /\ K b := by
 cases d <;> first | exact h1.elim | exact r.boolE ⟨_, rfl, h1⟩
theorem ev_not {a : CE} (ha : EvS prog w hT c A a) : EvS prog w hT c A (.not a) := by
 intro names ex env ρ X₀ X s K hm hn S hw
 refine wUn_E hm fun op x pos hm => ?_
 refine an3 hm fun h1 h2 h3 => ?_
 obtain rfl := eq_of_beq h1
 refine wpAny_UnaryOp (ha.use h2 hn S hw fun v s₁ d k S₁ hK hr _ => ?_)
 apply xEAq1L (on_bool hK (hr.rd (not_t h3))); intro b hK
 exact not_value (wpAny_truthy_bool ⟨k, _, hK, RdE.of (.bool _), fresh_no rfl⟩)
theorem is_not {a : CE} (ha : IsS prog w hT c A a) : IsS prog w hT c A (.not a) := by
 intro names ex env ρ X₀ X s K hm ho hn S hw
 refine wUn_E hm fun op x pos hm => ?_
 refine an3 hm fun h1 h2 h3 => ?_
 obtain rfl := eq_of_beq h1
 exact wpAny_isTrue_Not (ha.use (K := fun b => K (!b)) h2 (not_t h3) hn S hw fun b s' k S' hK => ⟨k, hK⟩)
theorem inv_cmp (hm : mE names (.cmp op a b) ex = true) : ∃ l r pos, ex = .Compare l [op] [r] pos /\ mE names a l = true /\ mE names b r = true /\ a.isOwn = false /\ b.isOwn = false /\ isSet r = false := by
 refine wCmp_E hm fun l ops cs pos hm => ?_
 refine w1_E hm fun o hm => ?_
 refine w1_E hm fun r hm => ?_
 refine an6 hm fun h1 h2 h3 h4 h5 h6 => ?_
 exact ⟨l, r, pos, by exact rwG (eq_of_beq h1) rfl, h2, h3, not_t h4, not_t h5, not_t h6⟩
theorem marks_of (h : isSet r = false) : behindInMarks op r = false := by
 cases r <;> first | rfl | exact nomatch h
theorem ev_cmp (C : CxOK prog w hT c A) {op : CmpOp} {a b : CE} (ha : EvS prog w hT c A a) (hb : EvS prog w hT c A b) : EvS prog w hT c A (.cmp op a b) := by
 intro names ex env ρ X₀ X s K hm hn S hw
 apply xEEEAAAAAq1L (inv_cmp hm); intro l r pos h2 h3 h4 h5 h6
 refine wpAny_Compare1 (ha.use h2 hn S hw fun v s₁ d k S₁ hK hr _ => hb.use h3 hn S₁ hK fun v₂ s₂ d₂ k₂ S₂ hK₂ hr₂ _ => ?_) (marks_of h6)
 refine wpAny_mono (C.cmp op d d₂ K X s₂ v v₂ S₂.ok hK₂ ((hr.rd h4).keeps (kh k₂)) (hr₂.rd h5)) (fun v' s' ⟨k', d', q, r⟩ => ?_) (fun _ _ f => f)
 exact ⟨kt k (kt k₂ k'), d', q, RdE.of r, fresh_no rfl⟩
theorem is_cmp (C : CxOK prog w hT c A) {op : CmpOp} {a b : CE} (ha : EvS prog w hT c A a) (hb : EvS prog w hT c A b) : IsS prog w hT c A (.cmp op a b) := by
 intro names ex env ρ X₀ X s K hm _ hn S hw
 apply xEEEAAAAAq1L (inv_cmp hm); intro l r pos h2 h3 h4 h5 h6
 refine wpAny_isTrue_Compare1 (ha.use h2 hn S hw fun v s₁ d k S₁ hK hr _ => hb.use h3 hn S₁ hK fun v₂ s₂ d₂ k₂ S₂ hK₂ hr₂ _ => ?_) (marks_of h6)
 refine wpAny_mono (C.cmp op d d₂ _ X s₂ v v₂ S₂.ok hK₂ ((hr.rd h4).keeps (kh k₂)) (hr₂.rd h5)) (fun v' s' ⟨k', d', q, r⟩ => ?_) (fun _ _ f => f)
 apply xEAq1L (on_bool q r); intro b hb
 exact wpAny_truthy_bool ⟨kt k (kt k₂ k'), hb⟩
theorem is_plain {e : CE} (h : EvS prog w hT c A e) (hf : ∀ names ex env, mE names e ex = true -> isTrue ex env (eval ex env) = (do let v <- eval ex env; standAt ex.pos; holding [v] (truthy v))) : IsS prog w hT c A e := by
 intro names ex env ρ X₀ X s K hm ho hn S hw
 refine wpAny_isTrue_value (h.use hm hn S hw fun v s₁ d k S₁ hK hr _ => ?_) (hf names ex env hm)
 apply xEAq1L (on_bool hK (hr.rd ho)); intro b hb
 exact wpAny_truthy_bool ⟨k, hb⟩
theorem inv_ite (hm : mE names (.ite t a b) ex = true) : ∃ t' a' b' pos, ex = .IfExp t' a' b' pos /\ mE names t t' = true /\ mE names a a' = true /\ mE names b b' = true /\ t.isOwn = false /\ a.isOwn = false /\ b.isOwn = false := by
 refine wIte_E hm fun t' a' b' pos hm => ?_
 refine an6 hm fun h1 h2 h3 h4 h5 h6 => ?_
 exact ⟨_, _, _, _, rfl, h1, h2, h3, not_t h4, not_t h5, not_t h6⟩
theorem ev_ite {t a b : CE} (ht : IsS prog w hT c A t) (ha : EvS prog w hT c A a) (hb : EvS prog w hT c A b) : EvS prog w hT c A (.ite t a b) := by
 intro names ex env ρ X₀ X s K hm hn S hw
 apply xEEEEAAAAAAq1L (inv_ite hm); intro t' a' b' pos h1 h2 h3 h4 h5 h6
 refine wpAny_IfExp (ht.use h1 h4 hn S hw fun q s₁ k S₁ hK => ?_)
 cases q with
 | true => exact ha.use h2 hn S₁ (hK.1 rfl) fun v s₂ d k₂ S₂ hK₂ hr _ => ⟨kt k k₂, d, hK₂, RdE.of (hr.rd h5), fresh_no rfl⟩
 | false => exact hb.use h3 hn S₁ (hK.2 rfl) fun v s₂ d k₂ S₂ hK₂ hr _ => ⟨kt k k₂, d, hK₂, RdE.of (hr.rd h6), fresh_no rfl⟩
theorem is_ite {t a b : CE} (ht : IsS prog w hT c A t) (ha : IsS prog w hT c A a) (hb : IsS prog w hT c A b) : IsS prog w hT c A (.ite t a b) := by
 intro names ex env ρ X₀ X s K hm _ hn S hw
 apply xEEEEAAAAAAq1L (inv_ite hm); intro t' a' b' pos h1 h2 h3 h4 h5 h6
 show wpAny _ _ (do if <- isTrue t' env (eval t' env) then isTrue a' env (eval a' env) else isTrue b' env (eval b' env)) _ _ _
 refine wpAny_bind (ht.use h1 h4 hn S hw fun q s₁ k S₁ hK => ?_)
 cases q with
 | true => exact ha.use h2 h5 hn S₁ (hK.1 rfl) fun b s₂ k₂ S₂ hK₂ => ⟨kt k k₂, hK₂⟩
 | false => exact hb.use h3 h6 hn S₁ (hK.2 rfl) fun b s₂ k₂ S₂ hK₂ => ⟨kt k k₂, hK₂⟩
theorem star_of (hm : mE names e ex = true) : starEach (ex :: xs) env = (false, eval ex env) :: starEach xs env := by
 cases ex <;> first | rfl | (cases e <;> exact (Bool.false_ne_true hm).elim)
theorem es_nil : EsS prog w hT c A .nil := by
 intro names xs env ρ X₀ X s K pos hm hn S hw
 cases xs with
 | cons _ _ => exact (Bool.false_ne_true hm).elim
 | nil => exact wpAny_items_nil ⟨kr s, [], hw, .nil⟩
theorem es_cons {e : CE} {r : CL} (he : EvS prog w hT c A e) (hr : EsS prog w hT c A r) : EsS prog w hT c A (.cons e r) := by
 intro names xs env ρ X₀ X s K pos hm hn S hw
 cases xs with
 | nil => exact (Bool.false_ne_true hm).elim
 | cons x xs =>
  refine an3 hm fun h1 h2 h3 => ?_
  refine wpAny_items_cons (he.use h1 hn S hw fun v s₁ d k S₁ hK hrd _ => hr.use h3 hn S₁ hK fun vs s₂ ds k₂ S₂ hK₂ hrs => ?_) (star_of h1)
  exact ⟨kt k k₂, _, hK₂, .cons ((hrd.rd (not_t h2)).keeps (kh k₂)) hrs⟩
theorem ev_list {es : CL} (h : EsS prog w hT c A es) : EvS prog w hT c A (.list es) := by
 intro names ex env ρ X₀ X s K hm hn S hw
 refine wLst_E hm fun xs pos hm => ?_
 refine wpAny_List (h.use hm hn S hw fun vs s₁ ds k S₁ hK hrs => ⟨by refine rwG (Eq.symm hrs.length) ?_; exact hK.1, kt k (kpush _ _), _, hK.2, RdE.of (.list S₁.ok.fresh (Heap.get?_push_size _ rfl) ?_), fun _ ds' _ a e => ?_⟩)
 ·exact hrs.keeps fun _ _ e => Heap.get?_push_of_some _ e
 ·injection e with e; subst e
  cases q : s.heap.get? s₁.heap.objs.size with
  | none => rfl
  | some o => exact absurd (Heap.lt_size (kh k _ _ q)) (Nat.lt_irrefl _)
theorem ev_tup {es : CL} (h : EsS prog w hT c A es) : EvS prog w hT c A (.tup es) := by
 intro names ex env ρ X₀ X s K hm hn S hw
 refine wTup_E hm fun xs n pos hm => ?_
 refine wpAny_Tuple (h.use hm hn S hw fun vs s₁ ds k S₁ hK hrs => ⟨by refine rwG (Eq.symm hrs.length) ?_; exact hK.1, kt k (kpush _ _), _, hK.2, RdE.of (.tup S₁.ok.fresh (Heap.get?_push_size _ rfl) ?_), fresh_no rfl⟩)
 exact hrs.keeps fun _ _ e => Heap.get?_push_of_some _ e
noncomputable def BoS (prog : Program) (w : World) (hT : Heap) (c : Cx) (A : Around) (es : CL) : Prop := ∀ op names xs env ρ X₀ X s K pos, mL names es xs = true -> env.scope.names = names -> St w.params hT env X₀ X ρ s.heap -> bopW c ρ op es K ->
 wpAny (model prog w) A (boolOp pos op (evalEach xs env)) (Post w.params X s K) FF s
noncomputable def BiS (prog : Program) (w : World) (hT : Heap) (c : Cx) (A : Around) (es : CL) : Prop := ∀ op names xs env ρ X₀ X s K, mL names es xs = true -> env.scope.names = names -> St w.params hT env X₀ X ρ s.heap -> bopW c ρ op es (onBool K) ->
 wpAny (model prog w) A (allTrue op xs env) (fun b s' => Keeps s s' /\ K b) FF s
theorem bo_nil : BoS prog w hT c A .nil := by
 intro op names xs env ρ X₀ X s K pos hm hn S hw
 exact False.elim hw
theorem bi_nil : BiS prog w hT c A .nil := by
 intro op names xs env ρ X₀ X s K hm hn S hw
 exact False.elim hw
theorem bo_cons (he : EvS prog w hT c A e) (hr : BoS prog w hT c A r) : BoS prog w hT c A (.cons e r) := by
 intro op names xs env ρ X₀ X s K pos hm hn S hw
 cases xs with
 | nil => exact (Bool.false_ne_true hm).elim
 | cons x xs =>
  refine an3 hm fun h1 h2 h3 => ?_
  cases r with
  | nil =>
   cases xs with
   | cons _ _ => exact (Bool.false_ne_true h3).elim
   | nil =>
    show wpAny _ _ (eval x env) _ _ _
    refine he.use h1 hn S hw fun v s₁ d k S₁ hK hrd _ => ?_
    apply xEAq1L (on_bool hK (hrd.rd (not_t h2))); intro b hb
    exact ⟨k, _, hb, .bool b⟩
  | cons e' r' =>
   cases xs with
   | nil => exact (Bool.false_ne_true h3).elim
   | cons y ys =>
    show wpAny _ _ (do
     let v <- eval x env
     standAt pos
     let t <- holding [v] (truthy v)
     match op, t with
     | .And, false | .Or, true => pure v
     | _, _ => boolOp pos op (evalEach (y :: ys) env)) _ _ _
    refine wpAny_bind (he.use h1 hn S hw fun v s₁ d k S₁ hK hrd _ => wpAny_bind (wpAny_standAt (wpAny_bind (wpAny_holding ?_))))
    apply xEAq1L (on_bool hK (hrd.rd (not_t h2))); intro b hb
    refine wpAny_truthy_bool ?_
    have go : bopW c ρ op (.cons e' r') K -> wpAny (model prog w) A (boolOp pos op (evalEach (y :: ys) env)) (Post w.params X s K) FF s₁ := fun q =>
     wpAny_mono (hr op names (y :: ys) env ρ X₀ X s₁ K pos h3 hn S₁ q) (fun v s' ⟨k', d, a, b⟩ => ⟨kt k k', d, a, b⟩) (fun _ _ f => f)
    cases op <;> cases b
    ·exact wpAny_pure ⟨k, _, hb.2 rfl, .bool _⟩
    ·exact go (hb.1 rfl)
    ·exact go (hb.1 rfl)
    ·exact wpAny_pure ⟨k, _, hb.2 rfl, .bool _⟩
theorem bi_cons (he : IsS prog w hT c A e) (hr : BiS prog w hT c A r) : BiS prog w hT c A (.cons e r) := by
 intro op names xs env ρ X₀ X s K hm hn S hw
 cases xs with
 | nil => exact (Bool.false_ne_true hm).elim
 | cons x xs =>
  refine an3 hm fun h1 h2 h3 => ?_
  have go : ∀ s₁, Keeps s s₁ -> St w.params hT env X₀ X ρ s₁.heap -> bopW c ρ op r (onBool K) -> wpAny (model prog w) A (allTrue op xs env) (fun b s' => Keeps s s' /\ K b) FF s₁ := fun s₁ k S₁ q =>
   wpAny_mono (hr op names xs env ρ X₀ X s₁ K h3 hn S₁ q) (fun v s' ⟨k', a⟩ => ⟨kt k k', a⟩) (fun _ _ f => f)
  cases op with
  | And =>
   refine wpAny_allTrue_And_cons (he.use h1 (not_t h2) hn S hw fun b s₁ k S₁ hK => ?_)
   cases r with
   | nil =>
    cases xs with
    | cons _ _ => exact (Bool.false_ne_true h3).elim
    | nil => cases b <;> first | exact ⟨k, hK⟩ | exact wpAny_allTrue_And_nil ⟨k, hK⟩
   | cons e' r' => cases b <;> first | exact ⟨k, hK.2 rfl⟩ | exact go s₁ k S₁ (hK.1 rfl)
  | Or =>
   refine wpAny_allTrue_Or_cons (he.use h1 (not_t h2) hn S hw fun b s₁ k S₁ hK => ?_)
   cases r with
   | nil =>
    cases xs with
    | cons _ _ => exact (Bool.false_ne_true h3).elim
    | nil => cases b <;> first | exact ⟨k, hK⟩ | exact wpAny_allTrue_Or_nil ⟨k, hK⟩
   | cons e' r' => cases b <;> first | exact ⟨k, hK.2 rfl⟩ | exact go s₁ k S₁ (hK.1 rfl)
theorem ev_bop (h : BoS prog w hT c A es) : EvS prog w hT c A (.bop op es) := by
 intro names ex env ρ X₀ X s K hm hn S hw
 refine wBop_E hm fun op' vs pos hm => ?_
 refine xA (and3 hm) fun h1 h2 => ?_
 obtain rfl := eq_of_beq h1
 exact wpAny_mono (h op names _ env ρ X₀ X s K _ h2 hn S hw) (fun v s' ⟨k, d, a, b⟩ => ⟨k, d, a, RdE.of b, fresh_no rfl⟩) (fun _ _ f => f)
theorem is_bop (h : BiS prog w hT c A es) : IsS prog w hT c A (.bop op es) := by
 intro names ex env ρ X₀ X s K hm _ hn S hw
 refine wBop_E hm fun op' vs pos hm => ?_
 refine xA (and3 hm) fun h1 h2 => ?_
 obtain rfl := eq_of_beq h1
 exact wpAny_isTrue_BoolOp (h op names _ env ρ X₀ X s K h2 hn S hw)
theorem plain_args : ∀ {es : CL} {xs : List Expr}, mL names es xs = true -> (backTo pos (starEach xs env)).any (·.1) = false /\ (backTo pos (starEach xs env)).all (fun x => !x.1) = true /\ (starEach xs env).length = xs.length
 | .nil, [], _ => ⟨rfl, rfl, rfl⟩
 | .nil, _ :: _, h => (Bool.false_ne_true h).elim
 | .cons _ _, [], h => (Bool.false_ne_true h).elim
 | .cons e r, x :: xs, h => by
  refine an3 h fun h1 h2 h3 => ?_
  have ih := plain_args (env := env) (pos := pos) h3
  refine rwG (star_of h1) ?_
  refine ⟨?_, ?_, ?_⟩
  ·show (false || (backTo pos (starEach xs env)).any (·.1)) = false
   refine rwG ih.1 ?_; rfl
  ·show (!false && (backTo pos (starEach xs env)).all (fun x => !x.1)) = true
   refine rwG ih.2.1 ?_; rfl
  ·exact rwG length_cons (rwG length_cons (rwG ih.2.2 rfl))
theorem args_use {ρ X₀ X} {K : List D -> Prop} {Q : Args -> Shared -> Prop} (H : EsS prog w hT c A es) (hm : mL names es xs = true) (hn : env.scope.names = names)
  (S : St w.params hT env X₀ X ρ s.heap) (hw : evsW c ρ es K) (h : ∀ vs s' ds, Keeps s s' -> St w.params hT env X₀ X ρ s'.heap -> K ds -> Rds w.params s'.heap X ds vs -> Q ⟨vs, []⟩ s') :
  wpAny (model prog w) A (evalArgs f true (backTo pos (starEach xs env)) []) Q FF s := by
 cases es with
 | nil =>
  cases xs with
  | cons _ _ => exact (Bool.false_ne_true hm).elim
  | nil => exact evalArgs_nil3 (h [] s [] (kr s) S hw .nil)
 | cons e r =>
  cases xs with
  | nil => exact (Bool.false_ne_true hm).elim
  | cons x xs =>
   have hs := H.use (pos := pos) (Q := fun vs s' => Q ⟨vs, []⟩ s') hm hn S hw h
   refine an3 hm fun h1 h2 h3 => ?_
   rw [star_of h1] at hs ⊢
   exact Calls.evalArgs_plain hs
theorem call_use (C : CxOK prog w hT c A) {s : Shared} {ρ X₀ X} {K : D -> Prop} {fd : List D} (H : EsS prog w hT c A es) (hm : mL names es xs = true) (hn : env.scope.names = names)
  (S : St w.params hT env X₀ X ρ s.heap) (hf : Rds w.params s.heap X fd first) (hw : evsW c ρ es fun ds => c.fn f (fd ++ ds) K) (hfn : c.isFn f = true) :
  wpAny (model prog w) A (callWith pos f first (backTo pos (starEach xs env)) []) (Post w.params X s K) FF s := by
 refine callWith_of (P := fun h => ∀ a o, hT.get? a = some o -> h.get? a = some o) (by refine rwG ((plain_args hm).1) ?_; rfl) (C.keeper f hfn) ?_
 refine args_use H hm hn S hw fun vs s' ds k S' hK hrs => ⟨S'.base, ?_⟩
 exact wpAny_mono (C.fn f (fd ++ ds) K X s' (first ++ vs) S'.ok hK ((hf.keeps (kh k)).append hrs)) (fun v s'' ⟨k', q⟩ => ⟨kt k k', q⟩) (fun _ _ x => x)
theorem inv_call (hm : mE names (.call f as) ex = true) : ∃ n p args pos, ex = .Call (.Name n p) args [] pos /\ mE names f (.Name n p) = true /\ mL names as args = true /\ f.isOwn = false := by
 refine wCall_E hm fun g args kws pos hm => ?_
 refine w0_E hm fun hm => ?_
 refine xEEA (wName_inv hm) fun n p z1q hm => ?_; obtain rfl := z1q
 refine xA (and3 hm) fun hm h3 => ?_
 exact ⟨_, _, _, _, rfl, (and3 hm).1, (and3 hm).2, not_t h3⟩
theorem ev_call (C : CxOK prog w hT c A) (hf : EvS prog w hT c A f) (ha : EsS prog w hT c A as) : EvS prog w hT c A (.call f as) := by
 intro names ex env ρ X₀ X s K hm hn S hw
 apply xEEEEAAAq1L (inv_call hm); intro n p args pos h1 h2 h3
 refine wpAny_Call_ofName (hf.use h1 hn S hw fun v s₁ d k S₁ hK hr _ => ?_)
 have r := hr.rd h3
 cases d <;> first | exact hK.elim | skip
 refine r.valE ?_
 exact wpAny_mono (call_use C (fd := []) ha h2 hn S₁ .nil hK.2 hK.1) (fun v s' ⟨k', d, a, b⟩ => ⟨kt k k', d, a, RdE.of b, fresh_no rfl⟩) (fun _ _ f => f)
theorem base_of (h : notSuper e = true) : attributeBase e n env t = t := by
 rcases Bool.or_eq_true_iff.mp h with h | h
 ·exact wName_E (C := fun e => attributeBase e n env t = t) h fun _ _ _ => rfl
 rcases Bool.or_eq_true_iff.mp h with h | h
 ·exact wSub_E (C := fun e => attributeBase e n env t = t) h fun _ _ _ _ => rfl
 rcases Bool.or_eq_true_iff.mp h with h | h
 ·exact wConst_E (C := fun e => attributeBase e n env t = t) h fun _ _ _ _ => rfl
 ·exact wCall_E (C := fun e => attributeBase e n env t = t) h fun f as ks p h => wName_E (C := fun f => attributeBase (.Call f as ks p) n env t = t) h fun _ _ h => wCons_E (C := fun as => attributeBase (.Call _ as ks p) n env t = t) h fun _ _ _ => rfl
theorem inv_meth (hm : mE names (.meth o m as) ex = true) : ∃ e apos args pos, ex = .Call (.Attribute e (ofString m) apos) args [] pos /\ mE names o e = true /\ mL names as args = true /\ o.isOwn = false /\
  notSuper e = true /\ args.length < 20 /\ (apos.endLine == pos.line) = true := by
 refine wCall_E hm fun g args kws pos hm => ?_
 refine w0_E hm fun hm => ?_
 refine wAtt_E hm fun e n apos hm => ?_
 refine an7 hm fun h1 h2 h3 h4 h5 h6 h7 => ?_
 exact ⟨_, _, _, _, by exact rwG (eq_of_beq h1) rfl, h2, h3, not_t h4, h5, of_decide_eq_true h6, h7⟩
theorem ev_meth (C : CxOK prog w hT c A) (ho : EvS prog w hT c A o) (ha : EsS prog w hT c A as) : EvS prog w hT c A (.meth o m as) := by
 intro names ex env ρ X₀ X s K hm hn S hw
 apply xEEEEAAAAAAq1L (inv_meth hm); intro e apos args pos h2 h3 h4 h5 h6 h7
 rw [arm_eval_Call, base_of h5]
 refine wpAny_bind (ho.use h2 hn S hw fun v s₁ d k S₁ hK hr _ => wpAny_bind (wpAny_standAt ?_))
 cases hmt : c.meth d m with
 | none => rw [hmt] at hK; exact hK.elim
 | some f =>
  rw [hmt] at hK
  have hform : methodCallForm (args.length + ([] : List Keyword).length) (backTo pos (starEach args env)) (backToKw pos (keywordEach [] env)) = true := by
   unfold methodCallForm
   refine rwG ((plain_args (env := env) (pos := pos) h3).2.1) ?_
   show (true && true && decide (args.length + 0 + 0 < 30)) = true
   simp; lia
  have hpos : methodCallPos true e env apos pos = pure pos := by unfold methodCallPos; simp [h7]
  unfold methodCall
  refine rwG hform ?_
  refine wpAny_bind (wpAny_holding ?_)
  show wpAny _ _ (getMethod v (ofString m) _) _ _ _
  refine C.meth d m f hmt X s₁ v _ _ S₁.ok (hr.rd h4) ?_
  refine wpAny_bind (wpAny_of_eq hpos ?_)
  exact wpAny_mono (call_use C (fd := [d]) ha h3 hn S₁ (.cons (hr.rd h4) .nil) hK.2 hK.1) (fun v s' ⟨k', d, a, b⟩ => ⟨kt k k', d, a, RdE.of b, fresh_no rfl⟩) (fun _ _ f => f)
theorem ev_attr (C : CxOK prog w hT c A) (ho : EvS prog w hT c A o) : EvS prog w hT c A (.attr o m) := by
 intro names ex env ρ X₀ X s K hm hn S hw
 refine wAtt_E hm fun e n pos hm => ?_
 refine an3 hm fun h1 h2 h3 => ?_
 obtain rfl := eq_of_beq h1
 rw [arm_eval_Attribute, base_of h3]
 refine wpAny_bind (ho.use h2 hn S hw fun v s₁ d k S₁ hK hr _ => wpAny_bind (wpAny_standAt (wpAny_bind (wpAny_holding ?_))))
 refine wpAny_mono (C.attr d m K X s₁ v S₁.ok hK hr.any) (fun v' s' ⟨k', d', a, b⟩ => ?_) (fun _ _ f => f)
 exact wpAny_bind (wpAny_letTemporaryGo (wpAny_pure ⟨kt k k', d', a, RdE.of b, fresh_no rfl⟩))
theorem type_keeps (h : s.TypeIs v T) (k : Keeps s s') : s'.TypeIs v T := by
 cases v <;> first | exact h | skip
 refine xEA h fun o a b => ?_; (try clear h)
 exact ⟨o, kh k _ _ a, b⟩
theorem sub_form : ∃ vs, subscripted sl false o i = operate vs (getItem o i) := by
 cases sl with
 | Slice a b c d => cases c <;> exact ⟨_, rfl⟩
 | _ => exact ⟨_, rfl⟩
theorem sub_tail {T id : String} (hT : s.TypeIs o T)
  (hl : typeLookup (.type T) "__getitem__" = pure (some (.builtin id))) (h : wpAny (model prog w) A (getItem o i) Q FF s) :
  wpAny (model prog w) A (subscriptTail value slice o i) Q FF s := by
 unfold subscriptTail
 refine wpAny_bind ?_
 refine rwG (getitemInPython_of_ne hT.not_modules) ?_
 refine wpAny_bind (wpAny_specialOf hT hl ?_)
 refine wpAny_pure (wpAny_bind ?_)
 refine xE (sub_form (sl := slice) (o := o) (i := i)) fun vs e => ?_
 show wpAny _ _ (subscripted slice false o i) _ _ _
 refine rwG e ?_
 exact wpAny_operating (wpAny_mono h (fun r s₃ h₃ => wpAny_bind (wpAny_letTemporaryGo (wpAny_pure h₃))) fun _ _ x => x)
theorem ev_item (C : CxOK prog w hT c A) (ho : EvS prog w hT c A o) (hi : EvS prog w hT c A i) : EvS prog w hT c A (.item o i) := by
 intro names ex env ρ X₀ X s K hm hn S hw
 refine wSub_E hm fun e sl pos hm => ?_
 refine an3 hm fun h1 h2 h3 => ?_
 refine Subscript_ (ho.use h1 hn S hw fun v s₁ d k S₁ hK hr _ => hi.use h2 hn S₁ hK fun v₂ s₂ d₂ k₂ S₂ hK₂ hr₂ _ => ?_)
 refine xEEAA (C.item d d₂ K X s₂ v v₂ S₂.ok hK₂ (hr.any.keeps (kh k₂)) (hr₂.rd (not_t h3))) fun T id t1 t2 t3 => ?_
 refine wpAny_mono (sub_tail t1 t2 t3) (fun v' s' ⟨k', d', a, b⟩ => ?_) (fun _ _ f => f)
 exact ⟨kt k (kt k₂ k'), d', a, RdE.of b, fresh_no rfl⟩
noncomputable def OpS (prog : Program) (w : World) (hT : Heap) (c : Cx) (A : Around) (o : CO) : Prop := ∀ names x env ρ X₀ X s K, mO names o x = true -> env.scope.names = names -> St w.params hT env X₀ X ρ s.heap -> optW c ρ o K ->
 wpAny (model prog w) A (evalPart x env) (fun v s' => Keeps s s' /\ ∃ d, K d /\ Rd w.params s'.heap X (d.getD .none) v) FF s
theorem op_no : OpS prog w hT c A .no := by
 intro names x env ρ X₀ X s K hm hn S hw
 cases x with
 | some _ => exact (Bool.false_ne_true hm).elim
 | none => exact wpAny_pure ⟨kr s, none, hw, .none⟩
theorem op_yes (h : EvS prog w hT c A e) : OpS prog w hT c A (.yes e) := by
 intro names x env ρ X₀ X s K hm hn S hw
 cases x with
 | none => exact (Bool.false_ne_true hm).elim
 | some x =>
  refine xA (and3 hm) fun h1 h2 => ?_
  exact h.use h1 hn S hw fun v s₁ d k S₁ hK hr _ => ⟨k, some d, hK, hr.rd (not_t h2)⟩
theorem inv_slice {l u st : CO} (hm : mE names (.slice o l u st) ex = true) : ∃ e a b c' p pos, ex = .Subscript e (.Slice a b c' p) pos /\ mE names o e = true /\ mO names l a = true /\ mO names u b = true /\ mO names st c' = true := by
 refine wSub_E hm fun e sl pos hm => ?_
 refine wSli_E hm fun a b c p hm => ?_
 refine an3 hm fun hm h3 h4 => ?_
 exact ⟨_, _, _, _, _, _, rfl, (and3 hm).1, (and3 hm).2, h3, h4⟩
theorem ev_slice (C : CxOK prog w hT c A) {l u st : CO} (ho : EvS prog w hT c A o) (hl : OpS prog w hT c A l) (hu : OpS prog w hT c A u) (hst : OpS prog w hT c A st) : EvS prog w hT c A (.slice o l u st) := by
 intro names ex env ρ X₀ X s K hm hn S hw
 apply xEEEEEEAAAAq1L (inv_slice hm); intro e a b c' p pos h1 h2 h3 h4
 refine Subscript_ (ho.use h1 hn S hw fun v s₁ d k S₁ hK hr _ => wpAny_Slice ?_)
 refine wpAny_mono (hl names a env ρ X₀ X s₁ _ h2 hn S₁ hK) (fun vl s₂ ⟨k₂, dl, hK₂, rl⟩ => ?_) (fun _ _ f => f)
 have S₂ := S₁.to k₂
 refine wpAny_mono (hu names b env ρ X₀ X s₂ _ h3 hn S₂ hK₂) (fun vu s₃ ⟨k₃, du, hK₃, ru⟩ => ?_) (fun _ _ f => f)
 have S₃ := S₂.to k₃
 refine wpAny_mono (hst names c' env ρ X₀ X s₃ _ h4 hn S₃ hK₃) (fun vst s₄ ⟨k₄, dst, hK₄, rst⟩ => ?_) (fun _ _ f => f)
 have S₄ := S₃.to k₄
 refine xEEAA (C.slice d dl du dst K X s₄ v vl vu vst S₄.ok hK₄ ((hr.any.keeps (kh k₂)).keeps (kh (kt k₃ k₄))) (rl.keeps (kh (kt k₃ k₄))) (ru.keeps (kh k₄)) rst) fun T id t1 t2 t3 => ?_
 have kp := kpush s₄ { cls := .type "slice", data := .fields #[vl, vu, vst] }
 refine wpAny_mono (sub_tail (T := T) ?_ t2 (t3 _ _ kp (Heap.IsSliceOf.new _ _ _ _))) (fun v' s' ⟨k', d', x, y, z⟩ => ?_) (fun _ _ f => f)
 ·exact type_keeps t1 kp
 ·exact ⟨kt k (kt k₂ (kt k₃ (kt k₄ (kt kp k')))), d', x, RdE.of y, fun _ => z.keeps (kt k (kt k₂ (kt k₃ (kt k₄ kp))))⟩
theorem inv_lenO (hm : mE names (.lenO x) ex = true) : ∃ z p n q pos, ex = .Call (.Name z p) [.Name n q] [] pos /\ isNm "len" z = true /\ (names.lookup z == some NameKind.globalImplicit) = true /\ isNm x n = true := by
 refine wCall_E hm fun g args kws pos hm => ?_
 refine w0_E hm fun hm => ?_
 refine w1_E hm fun a hm => ?_
 refine wName_E hm fun z p hm => ?_
 refine wName_E hm fun n q hm => ?_
 refine xA (and3 hm) fun hm h3 => ?_
 exact ⟨_, _, _, _, _, rfl, (and3 hm).1, (and3 hm).2, h3⟩
theorem ev_lenO (C : CxOK prog w hT c A) : EvS prog w hT c A (.lenO x) := by
 intro names ex env ρ X₀ X s K hm hn S hw
 apply xEEEEEAAAq1L (inv_lenO hm); intro z p n q pos h1 h2 h3
 dsimp only [evW] at hw
 cases hl : ρ.lookup x with
 | none => rw [hl] at hw; exact hw.elim
 | some e =>
  rw [hl] at hw
  cases e with
  | v d => exact hw.elim
  | own d =>
   refine wpAny_Call_ofName (load_glob C h1 h2 hn S C.gLen fun v hr => ?_)
   refine hr.valE ?_
   show wpAny _ _ (callWith pos (.builtin "len") [] [(false, eval (.Name n q) env)] []) _ _ _
   refine Calls.callWith_builtin rfl (Calls.evalArgs_plain (Calls.spliced_cons (load_var h3 S hl fun v r hr => Calls.spliced_nil ?_)))
   exact wpAny_mono (C.len d K X s v r S.ok hw hr) (fun v' s' ⟨k, d', a, b⟩ => ⟨k, d', a, RdE.of b, fresh_no rfl⟩) (fun _ _ f => f)
noncomputable def ItOK (prog : Program) (w : World) (A : Around) (X : Addr -> Prop) (own : Bool) (s₀ : Shared) (it : Value) (ds : List D) (s : Shared) : Prop :=
 ∃ I fp wr P T, it = .ref I /\ Walks prog w A I fp wr ds.length P T /\ T 0 s.heap /\ (∀ b ∈ fp, b < s.heap.objs.size) /\ (∀ b ∈ wr, s₀.heap.get? b = none) /\
  (∀ i h, T i h -> ∀ b ∈ fp, ∃ o, h.get? b = some o) /\ (own = false -> ∀ b ∈ fp, b ∈ wr \/ ¬ X b) /\
  (∀ i v d, P i v -> ds[i]? = some d -> Rd w.params s₀.heap X d v)
theorem fresh_size (k : Keeps s s') : s.heap.get? s'.heap.objs.size = none := by
 cases q : s.heap.get? s'.heap.objs.size with
 | none => rfl
 | some o => exact absurd (Heap.lt_size (kh k _ _ q)) (Nat.lt_irrefl _)
theorem it_list (hh : A.handled = none) (ho : s.heap.get? a = some (listOf vs n)) (hr : Rds w.params s.heap X ds vs.toList)
  (hX : own = false -> ¬ X a) (h : ∀ it s', Keeps s s' -> ItOK prog w A X own s it ds s' -> Q it s') : wpAny (model prog w) A (pyIter (.ref a)) Q FF s := by
 have hl : s.heap.IsList a vs := ⟨_, ho, rfl, n, rfl⟩
 refine wpAny_pyIter_list hl ?_
 have kp := kpush s { cls := .type "list_iterator", data := .fields #[.ref a, .int 0 0] }
 refine h _ _ kp ⟨s.heap.objs.size, [s.heap.objs.size, a], [s.heap.objs.size], fun i v => vs[i]? = some v, fun i h => h.IsListIter s.heap.objs.size a i /\ h.IsList a vs, rfl, ?_, ?_, ?_, ?_, ?_, ?_, ?_⟩
 ·have e : ds.length = vs.size := by refine rwG hr.length ?_; simp
  refine rwG e ?_
  exact Walks.list hh _ _ (Nat.ne_of_lt (Heap.lt_size ho)) vs
 ·exact ⟨⟨_, Heap.get?_push_size _ rfl, rfl, rfl⟩, hl.push _⟩
 ·intro b hb
  rw [Heap.size_push]
  simp only [mem_cons, not_mem_nil, or_false] at hb
  rcases hb with rfl | rfl
  ·exact Nat.lt_succ_self _
  ·exact Nat.lt_succ_of_lt (Heap.lt_size ho)
 ·intro b hb
  simp only [mem_cons, not_mem_nil, or_false] at hb
  subst hb
  exact fresh_size (kr s)
 ·intro i h st b hb
  simp only [mem_cons, not_mem_nil, or_false] at hb
  rcases hb with rfl | rfl
  ·refine xEA st.1 fun o e _ => ?_
   exact ⟨o, e⟩
  ·refine xEA st.2 fun o e _ => ?_
   exact ⟨o, e⟩
 ·intro e b hb
  simp only [mem_cons, not_mem_nil, or_false] at hb
  rcases hb with rfl | rfl
  ·exact .inl (by simp)
  ·exact .inr (hX e)
 ·intro i v d e hd
  refine xEA (hr.get hd) fun v' e' r => ?_
  have : vs.toList[i]? = some v := by simpa using e
  rw [this] at e'
  obtain rfl := osi e'
  exact r
theorem it_range (hh : A.handled = none) (hr : IsRange s.heap r a b 1 t u v) (ha : small a) (hb : small b)
  (h : ∀ it s', Keeps s s' -> ItOK prog w A X own s it (intL a b) s' -> Q it s') : wpAny (model prog w) A (pyIter (.ref r)) Q FF s := by
 refine wpAny_pyIter_range hr (small_one ha.1 ha.2 hb.1 hb.2) ?_
 have kp := kpush s { cls := .type "range_iterator", data := .fields #[rawInt a, rawInt (Builtin.Range.rangeSize a b 1), rawInt 1] }
 refine h _ _ kp ⟨s.heap.objs.size, [s.heap.objs.size], [s.heap.objs.size], fun i v => ∃ t, v = .int (a + i * 1) t, fun i h => IsRangeIter h s.heap.objs.size (a + (i : Nat) * 1) (((b - a).toNat : Int) - (i : Nat)) 1, rfl, ?_, ?_, ?_, ?_, ?_, ?_, ?_⟩
 ·have e : (intL a b).length = (b - a).toNat := by simp [intL]
  refine rwG e ?_
  exact Walks.range hh _ _ _ _
 ·show Heap.get? _ _ = _
  refine rwG (Heap.get?_push_size _ rfl) ?_
  have e1 : Builtin.Range.rangeSize a b 1 = ((b - a).toNat : Int) := by rw [rangeSize_one]; split <;> lia
  refine rwG e1 ?_
  simp
 ·intro b hb
  rw [Heap.size_push]
  simp only [mem_cons, not_mem_nil, or_false] at hb
  subst hb
  exact Nat.lt_succ_self _
 ·intro b hb
  simp only [mem_cons, not_mem_nil, or_false] at hb
  subst hb
  exact fresh_size (kr s)
 ·intro i h st b hb
  simp only [mem_cons, not_mem_nil, or_false] at hb
  subst hb
  exact ⟨_, st⟩
 ·intro e b hb
  exact .inl hb
 ·intro i v d e hd
  apply xEq1L e; intro t; (try clear e)
  simp only [intL, List.getElem?_map] at hd
  cases q : (List.range (b - a).toNat)[i]? with
  | none => rw [q] at hd; injection hd
  | some j =>
   rw [q] at hd
   obtain ⟨hlt, hj⟩ := List.getElem?_eq_some_iff.mp q
   rw [List.getElem_range] at hj
   subst hj
   obtain rfl := osi hd
   rw [Int.mul_one]
   exact .int _ _
theorem it_str (hh : A.handled = none)
  (h : ∀ it s', Keeps s s' -> ItOK prog w A X own s it (signs x) s' -> Q it s') : wpAny (model prog w) A (pyIter (.str x t)) Q FF s := by
 have go : ∀ T : String, (Walks prog w A s.heap.objs.size [s.heap.objs.size] [s.heap.objs.size] x.cps.size (SignAt x) (fun i h => h.IsStrIter s.heap.objs.size T x t i)) ->
   Q (.ref s.heap.objs.size) { s with heap := s.heap.push { cls := .type T, data := .fields #[.str x t, .int 0 0] } } := by
  intro T W
  refine h _ _ (kpush s _) ⟨s.heap.objs.size, [s.heap.objs.size], [s.heap.objs.size], SignAt x, fun i h => h.IsStrIter s.heap.objs.size T x t i, rfl, ?_, ?_, ?_, ?_, ?_, ?_, ?_⟩
  ·have e : (signs x).length = x.cps.size := by simp [signs]
   refine rwG e ?_; exact W
  ·exact ⟨_, Heap.get?_push_size _ rfl, rfl, rfl⟩
  ·intro b hb
   rw [Heap.size_push]
   simp only [mem_cons, not_mem_nil, or_false] at hb
   subst hb
   exact Nat.lt_succ_self _
  ·intro b hb
   simp only [mem_cons, not_mem_nil, or_false] at hb
   subst hb
   exact fresh_size (kr s)
  ·intro i h st b hb
   simp only [mem_cons, not_mem_nil, or_false] at hb
   subst hb
   refine xEA st fun o e _ => ?_; (try clear st)
   exact ⟨o, e⟩
  ·intro e b hb
   exact .inl hb
  ·intro i v d e hd
   apply xEEAq2L e; intro c u hc; (try clear e)
   simp only [signs, List.getElem?_map, Array.getElem?_toList, hc, Option.map_some, Option.some.injEq] at hd
   subst hd
   exact .str _ _
 cases ha : x.cps.all (·< 128)
 ·exact wpAny_pyIter_wide ha (go _ (Walks.strWide hh _ _ _))
 ·exact wpAny_pyIter_ascii ha (go _ (Walks.strAscii hh _ _ _))
noncomputable def CI.isOwn : CI -> Bool
 | .over e => e.isOwn
 | _ => false
noncomputable def ItS (prog : Program) (w : World) (hT : Heap) (c : Cx) (A : Around) (it : CI) : Prop := ∀ names ex env ρ X₀ X s K, mI names it ex = true -> env.scope.names = names -> St w.params hT env X₀ X ρ s.heap -> itW c ρ it K ->
 (∀ x, foldedSetIterable ex env x = pure x) /\
 wpAny (model prog w) A (eval ex env) (fun xv s₁ => wpAny (model prog w) A (pyIter xv) (fun itv s₂ => Keeps s s₂ /\ ∃ ds s₁, K ds /\ Keeps s s₁ /\ Keeps s₁ s₂ /\ ItOK prog w A X it.isOwn s₁ itv ds s₂) FF s₁) FF s
theorem folded_of (h : isSet ex = false) (x : Value) : foldedSetIterable ex env x = pure x := by
 cases ex <;> first | rfl | exact nomatch h
theorem it_over (hh : A.handled = none) (he : EvS prog w hT c A e) : ItS prog w hT c A (.over e) := by
 intro names ex env ρ X₀ X s K hm hn S hw
 refine xA (and3 hm) fun h1 h2 => ?_
 refine ⟨folded_of (not_t h2), he.use h1 hn S hw fun v s₁ d k S₁ hK hr _ => ?_⟩
 cases d with
 | list ds =>
  have hX : e.isOwn = false -> ∀ a, v = .ref a -> ¬ X a := fun ho => (hr.rd ho).listE (C := fun v => ∀ a, v = .ref a -> ¬ X a) fun a _ _ hx _ _ b e => Value.ref.inj e ▸ hx
  revert hX
  exact hr.any.rawE fun a vs n ho hrs hX => it_list hh ho hrs (fun q => hX q a rfl) fun it s' k' I => ⟨kt k k', ds, s₁, hK, k, k', I⟩
 | str x => exact (hr.any.flat rfl).strE fun t => it_str hh fun it s' k' I => ⟨kt k k', _, s₁, hK, k, k', I⟩
 | _ => exact hK.elim
theorem inv_rng1 (hm : mI names (.rng1 e) ex = true) : ∃ z p x pos, ex = .Call (.Name z p) [x] [] pos /\ isNm "range" z = true /\ (names.lookup z == some NameKind.globalImplicit) = true /\ mE names e x = true /\ e.isOwn = false := by
 refine wCall_E hm fun g args kws pos hm => ?_
 refine w0_E hm fun hm => ?_
 refine w1_E hm fun x hm => ?_
 refine wName_E hm fun z p hm => ?_
 refine an3 hm fun hm h3 h4 => ?_
 exact ⟨_, _, _, _, rfl, (and3 hm).1, (and3 hm).2, h3, not_t h4⟩
theorem inv_rng2 {C : Prop} (hm : mI names (.rng2 e f) ex = true) (c : ∀ z p x y pos, ex = .Call (.Name z p) [x, y] [] pos -> isNm "range" z = true -> (names.lookup z == some NameKind.globalImplicit) = true -> mE names e x = true -> mE names f y = true -> e.isOwn = false -> f.isOwn = false -> C) : C := by
 revert c
 refine wCall_E hm fun g args kws pos hm => ?_
 refine w0_E hm fun hm => ?_
 refine w2_E hm fun x y hm => ?_
 refine wName_E hm fun z p hm => ?_
 refine an5 hm fun hm h3 h4 h5 h6 => ?_
 exact fun c => c _ _ _ _ _ rfl (and3 hm).1 (and3 hm).2 h3 h4 (not_t h5) (not_t h6)
theorem back1 (h : mE names e x = true) : backTo pos (starEach [x] env) = [(false, eval x env)] := by
 refine rwG (star_of h) ?_; rfl
theorem back2 (h : mE names e x = true) (h' : mE names f y = true) : backTo pos (starEach [x, y] env) = [(false, eval x env), (false, eval y env)] := by
 refine rwG (star_of h) (rwG (star_of h') ?_); rfl
theorem it_rng1 (C : CxOK prog w hT c A) (he : EvS prog w hT c A e) : ItS prog w hT c A (.rng1 e) := by
 intro names ex env ρ X₀ X s K hm hn S hw
 apply xEEEEAAAAq1L (inv_rng1 hm); intro z p x pos h1 h2 h3 h4
 refine ⟨folded_of rfl, wpAny_Call_ofName (load_glob C h1 h2 hn S C.gRange fun v hr => ?_)⟩
 refine hr.valE ?_
 refine rwG (back1 h3) ?_
 refine PyProof.Rows.callWith_type rfl (Calls.evalArgs_plain (Calls.spliced_cons (he.use h3 hn S hw fun v s₁ d k S₁ hK hr _ => Calls.spliced_nil ?_)))
 refine isI_E hK (hr.rd h4) fun n t hK => call_range_1 ?_
 have kp := kt (kpush s₁ { cls := .type "range", data := .fields #[.int 0 s₁.toks, .int n t, .int 1 (s₁.toks + 1)] }) (ktok _ (s₁.toks + 1 + 1))
 exact it_range C.hh (IsRange.new _ _ _ _ _ _ _) ⟨by decide, by decide⟩ hK.1 fun it s' k' I => ⟨kt k (kt kp k'), _, _, hK.2, kt k kp, k', I⟩
theorem it_rng2 (C : CxOK prog w hT c A) {e f : CE} (he : EvS prog w hT c A e) (hf : EvS prog w hT c A f) : ItS prog w hT c A (.rng2 e f) := by
 intro names ex env ρ X₀ X s K hm hn S hw
 refine inv_rng2 hm fun z p x y pos e h1 h2 h3 h4 h5 h6 => ?_
 subst e
 refine ⟨folded_of rfl, wpAny_Call_ofName (load_glob C h1 h2 hn S C.gRange fun v hr => ?_)⟩
 refine hr.valE ?_
 refine rwG (back2 h3 h4) ?_
 refine PyProof.Rows.callWith_type rfl (Calls.evalArgs_plain (Calls.spliced_cons (he.use h3 hn S hw fun v s₁ d k S₁ hK hr _ => isI_E hK (hr.rd h5) fun m t hK => Calls.spliced_cons (hf.use h4 hn S₁ hK fun v₂ s₂ d₂ k₂ S₂ hK₂ hr₂ _ => isI_E hK₂ (hr₂.rd h6) fun n u hK₂ => Calls.spliced_nil (call_range_2 ?_)))))
 have kp := kt (kpush s₂ { cls := .type "range", data := .fields #[.int m t, .int n u, .int 1 s₂.toks] }) (ktok _ (s₂.toks + 1))
 exact it_range C.hh (IsRange.new _ _ _ _ _ _ _) hK₂.1 hK₂.2.1 fun it s' k' I => ⟨kt k (kt k₂ (kt kp k')), _, _, hK₂.2.2, kt k (kt k₂ kp), k', I⟩
noncomputable def TsS (prog : Program) (w : World) (hT : Heap) (c : Cx) (A : Around) (es : CL) : Prop := ∀ names xs env ρ X₀ X s K, mL names es xs = true -> env.scope.names = names -> St w.params hT env X₀ X ρ s.heap -> testsW c ρ es K ->
 wpAny (model prog w) A (forIn xs true fun c r => if r = true then do let ok <- isTrue c env (eval c env); pure (ForInStep.yield ok) else pure (ForInStep.yield r)) (fun b s' => Keeps s s' /\ K b) FF s
theorem forIn_false (env : Env) : ∀ xs : List Expr, (forIn xs false fun c r => if r = true then do let ok <- isTrue c env (eval c env); pure (ForInStep.yield ok) else pure (ForInStep.yield r) : Sem Bool) = pure false
 | [] => rfl
 | x :: xs => by
  rw [List.forIn_cons]
  simp only [Bool.false_eq_true, if_false, pure_bind]
  exact forIn_false env xs
theorem ts_nil : TsS prog w hT c A .nil := by
 intro names xs env ρ X₀ X s K hm hn S hw
 cases xs with
 | cons _ _ => exact (Bool.false_ne_true hm).elim
 | nil => exact wpAny_pure ⟨kr s, hw⟩
theorem ts_cons (he : IsS prog w hT c A e) (hr : TsS prog w hT c A r) : TsS prog w hT c A (.cons e r) := by
 intro names xs env ρ X₀ X s K hm hn S hw
 cases xs with
 | nil => exact (Bool.false_ne_true hm).elim
 | cons x xs =>
  dsimp only [testsW] at hw
  refine an3 hm fun h1 h2 h3 => ?_
  rw [List.forIn_cons]
  simp only [if_true]
  refine wpAny_bind (wpAny_bind (he.use h1 (not_t h2) hn S hw fun b s₁ k S₁ hK => wpAny_pure ?_))
  cases b with
  | true => exact wpAny_mono (hr names xs env ρ X₀ X s₁ K h3 hn S₁ (hK.1 rfl)) (fun b s' ⟨k', a⟩ => ⟨kt k k', a⟩) (fun _ _ f => f)
  | false =>
   dsimp only
   rw [forIn_false]
   exact wpAny_pure ⟨k, hK.2 rfl⟩
noncomputable def closL (cells : List (Str × Addr)) : List (Str × NameKind) -> List (Str × Addr) -> List (Str × Addr)
 | [], acc => acc
 | (n, k) :: r, acc => if k == .free then closL cells r ((n, (cells.lookup n).getD 0) :: acc) else closL cells r acc
theorem clos_run (f : Str × NameKind -> List (Str × Addr) -> Sem (ForInStep (List (Str × Addr)))) (hf : ∀ name kind cs, f (name, kind) cs = if kind == .free then (do let a <- cellOf env name; pure (.yield ((name, a) :: cs))) else pure (.yield cs)) :
  ∀ (names : List (Str × NameKind)) (acc : List (Str × Addr)), (∀ y ∈ names, y.2 = .free -> ∃ a, env.cells.lookup y.1 = some a) -> forIn names acc f = pure (closL env.cells names acc)
 | [], _, _ => rfl
 | (n, k) :: r, acc, h => by
  rw [List.forIn_cons, hf]
  unfold closL
  by_cases hk : (k == NameKind.free) = true
  ·refine rwG (if_pos hk) (rwG (if_pos hk) ?_)
   refine xE (h (n, k) mem_cons_self (beq_iff_eq.mp hk)) fun a ha => ?_
   have e : cellOf env n = pure a := by unfold cellOf; exact rwG ha rfl
   refine rwG e (rwG ha ?_)
   simp only [pure_bind, Option.getD_some]
   exact clos_run f hf r _ fun y hy => h y (mem_cons_of_mem _ hy)
  ·refine rwG (if_neg hk) (rwG (if_neg hk) ?_)
   simp only [pure_bind]
   exact clos_run f hf r _ fun y hy => h y (mem_cons_of_mem _ hy)
theorem closure_of (h : ∀ y ∈ scope.names, y.2 = .free -> ∃ a, env.cells.lookup y.1 = some a) : closureFor scope env = pure (closL env.cells scope.names []) := by
 unfold closureFor
 dsimp only
 refine rwG (clos_run (env := env) _ (fun name kind cs => rfl) scope.names [] h) ?_
 rfl
theorem clos_spec : ∀ (names : List (Str × NameKind)) (acc : List (Str × Addr)), (∀ y ∈ names, y.2 = .free -> ∃ a, cells.lookup y.1 = some a) -> (∀ n a, (n, a) ∈ acc -> cells.lookup n = some a) ->
  ∀ n a, (n, a) ∈ closL cells names acc -> cells.lookup n = some a
 | [], _, _, ha => ha
 | (n, k) :: r, acc, h, ha => by
  unfold closL
  split
  ·rename_i hk
   refine clos_spec r _ (fun y hy => h y (mem_cons_of_mem _ hy)) fun m a hm => ?_
   rcases mem_cons.mp hm with e | e
   ·refine xE (h (n, k) mem_cons_self (beq_iff_eq.mp hk)) fun b hb => ?_
    cases e
    dsimp only at hb
    refine rwG hb ?_; rfl
   ·exact ha m a e
  ·exact clos_spec r acc (fun y hy => h y (mem_cons_of_mem _ hy)) ha
theorem clos_old : ∀ (names : List (Str × NameKind)) (acc : List (Str × Addr)) p, p ∈ acc -> p ∈ closL cells names acc
 | [], _, _, h => h
 | (n, k) :: r, acc, p, h => by
  unfold closL
  split
  ·exact clos_old r _ p (mem_cons_of_mem _ h)
  ·exact clos_old r _ p h
theorem clos_all : ∀ (names : List (Str × NameKind)) (acc : List (Str × Addr)) n, (n, NameKind.free) ∈ names -> ∃ a, (n, a) ∈ closL cells names acc
 | (m, k) :: r, acc, n, h => by
  unfold closL
  rcases mem_cons.mp h with e | e
  ·cases e
   exact ⟨_, clos_old r _ _ mem_cons_self⟩
  ·split
   ·exact clos_all r _ n e
   ·exact clos_all r _ n e
theorem lookup_of_mem {cells : List (Str × Addr)} : ∀ {l : List (Str × Addr)} {n : Str} {a : Addr}, (∀ m b, (m, b) ∈ l -> cells.lookup m = some b) -> (n, a) ∈ l -> l.lookup n = cells.lookup n
 | (m, b) :: r, n, a, hs, h => by
  refine rwG lookup_cons ?_
  cases hb : n == m with
  | true => obtain rfl := beq_iff_eq.mp hb; exact (hs _ _ mem_cons_self).symm
  | false =>
   rcases mem_cons.mp h with e | e
   ·injection e with e; subst e; simp at hb
   ·exact lookup_of_mem (fun m b hm => hs m b (mem_cons_of_mem _ hm)) e
theorem mem_of_lk {α : Type} : ∀ {l : List (Str × α)} {n : Str} {a : α}, l.lookup n = some a -> (n, a) ∈ l := mem_of_lookup
structure ScOk (names : List (Str × NameKind)) (sc : Scope) (xs caps : List String) : Prop where
 kind : sc.kind = .function
 nocell : ∀ y ∈ sc.names, y.2 ≠ .cell
 loc : ∀ y ∈ sc.names, y.2 = .local -> sc.names.lookup y.1 = some .local
 free : ∀ y ∈ sc.names, y.2 = .free -> names.lookup y.1 = some .cell
 vars : ∀ x ∈ xs, sc.names.lookup (ofString x) = some .local
 caps : ∀ x ∈ caps, sc.names.lookup (ofString x) = some .free
theorem scOk_of (h : scopeOk names sc xs caps = true) : ScOk names sc xs caps := by
 unfold scopeOk at h
 simp only [Bool.and_eq_true, all_eq_true, bne_iff_ne, ne_eq, Bool.or_eq_true, beq_iff_eq] at h
 refine xA h fun z1q h6 => ?_; (try clear h); obtain ⟨⟨⟨⟨h1, h2⟩, h3⟩, h4⟩, h5⟩ := z1q
 exact ⟨h1, h2, fun y hy e => (h3 y hy).resolve_left (fun q => q e), fun y hy e => (h4 y hy).resolve_left (fun q => q e), h5, h6⟩
theorem relab_local : ∀ {inner : List (Str × NameKind)} {x : Str}, inner.lookup x = some .local -> (relab names inner).lookup x = some .local
 | [], _, h => by simp at h
 | (n, k) :: r, x, h => by
  unfold relab
  refine rwG map_cons ?_
  rw [lookup_cons] at h
  dsimp only
  by_cases hc : (k == NameKind.free && names.lookup n == some NameKind.cell) = true
  ·refine rwG (if_pos hc) (rwG lookup_cons ?_)
   cases hx : x == n with
   | true =>
    rw [hx] at h
    obtain rfl := osi h
    simp at hc
   | false =>
    rw [hx] at h
    exact relab_local h
  ·refine rwG (if_neg hc) (rwG lookup_cons ?_)
   cases hx : x == n with
   | true => rw [hx] at h; exact h
   | false => rw [hx] at h; exact relab_local h
theorem relab_free : ∀ {inner : List (Str × NameKind)} {x : Str}, inner.lookup x = some .free -> names.lookup x = some .cell -> (relab names inner).lookup x = some .cell
 | [], _, h, _ => by simp at h
 | (n, k) :: r, x, h, hc => by
  unfold relab
  refine rwG map_cons ?_
  rw [lookup_cons] at h
  dsimp only
  cases hx : x == n with
  | true =>
   rw [hx] at h
   obtain rfl := osi h
   obtain rfl := beq_iff_eq.mp hx
   refine rwG hc ?_
   simp [lookup_cons]
  | false =>
   rw [hx] at h
   have ih := relab_free (names := names) h hc
   split <;> refine rwG lookup_cons (rwG hx ?_) <;> exact ih
theorem relab_inv : ∀ {inner : List (Str × NameKind)} {x : Str} {k : NameKind}, (relab names inner).lookup x = some k -> k = .cell \/ k = .free -> (∀ y ∈ inner, y.2 ≠ .cell) -> ∃ y ∈ inner, y = (x, .free)
 | [], _, _, h, _, _ => by simp [relab] at h
 | (n, k) :: r, x, k', h, hk, hn => by
  unfold relab at h
  rw [map_cons] at h
  dsimp only at h
  have ih := fun q => relab_inv (names := names) (inner := r) (x := x) (k := k') q hk fun y hy => hn y (mem_cons_of_mem _ hy)
  by_cases hc : (k == NameKind.free && names.lookup n == some NameKind.cell) = true
  ·rw [if_pos hc, lookup_cons] at h
   cases hx : x == n with
   | true =>
    obtain rfl := beq_iff_eq.mp hx
    have : k = .free := by simp at hc; exact hc.1
    exact ⟨_, mem_cons_self, by exact rwG this rfl⟩
   | false =>
    rw [hx] at h
    refine xEA (ih h) fun y hy e => ?_
    exact ⟨y, mem_cons_of_mem _ hy, e⟩
  ·rw [if_neg hc, lookup_cons] at h
   cases hx : x == n with
   | true =>
    rw [hx] at h
    obtain rfl := osi h
    obtain rfl := beq_iff_eq.mp hx
    rcases hk with rfl | rfl
    ·exact absurd rfl (hn _ mem_cons_self)
    ·exact ⟨_, mem_cons_self, rfl⟩
   | false =>
    rw [hx] at h
    refine xEA (ih h) fun y hy e => ?_
    exact ⟨y, mem_cons_of_mem _ hy, e⟩
theorem caught_in : ∀ {caps : List String} {y : String} {e : Ent}, (caught ρ caps).lookup y = some e -> y ∈ caps /\ ∃ d, e = .v d /\ ρ.lookup y = some (.v d)
 | [], _, _, h => by simp [caught] at h
 | z :: r, y, e, h => by
  unfold caught at h
  rw [filterMap_cons] at h
  have ih := fun q => caught_in (ρ := ρ) (caps := r) (y := y) (e := e) q
  cases hz : ρ.lookup z with
  | none => rw [hz] at h; obtain ⟨a, b⟩ := ih h; exact ⟨mem_cons_of_mem _ a, b⟩
  | some q =>
   rw [hz] at h
   cases q with
   | own d => obtain ⟨a, b⟩ := ih h; exact ⟨mem_cons_of_mem _ a, b⟩
   | v d =>
    dsimp only at h
    rw [lookup_cons] at h
    cases hb : y == z with
    | true =>
     rw [hb] at h
     obtain rfl := osi h
     obtain rfl := beq_iff_eq.mp hb
     exact ⟨mem_cons_self, d, rfl, hz⟩
    | false =>
     rw [hb] at h
     refine xA (ih h) fun a b => ?_
     exact ⟨mem_cons_of_mem _ a, b⟩
theorem inner_St {s : Shared} {C : Addr} {h : Heap} {m : Str -> Option Value} {ρv : Ro} {X' : Addr -> Prop}
  (hn : env.scope.names = names) (S : St w.params hT env X₀ X ρ s.heap) (O : ScOk names sc xs caps) (hk : ∀ b o, s.heap.get? b = some o -> h.get? b = some o)
  (hX' : ∀ a o, s.heap.get? a = some o -> X' a -> X a) (hXX : ∀ a, X a -> X' a) (hlive : ∀ a, X' a -> ∃ o, h.get? a = some o) (hC : X' C) (hCf : s.heap.get? C = none) (hns : h.Ns C m)
  (hv : ∀ x e, ρv.lookup x = some e -> x ∈ xs /\ ∃ d v, e = .v d /\ m (ofString x) = some v /\ Rd w.params h X' d v) :
  St w.params hT (compEnvC sc (closL env.cells sc.names []) C env) (fun _ => False) X' (ρv ++ caught ρ caps) h := by
 have hcell : ∀ y ∈ sc.names, y.2 = .free -> ∃ a, env.cells.lookup y.1 = some a := fun y hy e => S.celled y.1 (.inl (by unfold Env.kindOf; refine rwG hn ?_; exact O.free y hy e))
 have hsp := clos_spec (cells := env.cells) sc.names [] hcell (fun _ _ q => by cases q)
 have hnames : (compEnvC sc (closL env.cells sc.names []) C env).scope.names = relab names sc.names := by
  show (relabel sc env).names = _
  unfold relabel relab
  dsimp only
  refine map_congr_left fun y _ => ?_
  refine rwG S.fn ?_
  unfold Env.kindOf
  refine rwG hn ?_
  simp
 have hlk : ∀ n, (n, NameKind.free) ∈ sc.names -> (closL env.cells sc.names []).lookup n = env.cells.lookup n := fun n hm => by
  refine xE (clos_all (cells := env.cells) sc.names [] n hm) fun a ha => ?_
  exact lookup_of_mem hsp ha
 refine ⟨fun a o e => hk _ _ (S.base a o e), fun a x => ?_, hlive, fun _ f => f.elim, O.kind, S.glob, S.blt, hC, fun f => f.elim, fun _ _ _ f => f.elim, fun n q => ?_, fun n a e => ?_, fun n n' a e e' => ?_, m, fun _ => 0, hns, fun x e q => ?_, fun x y d d' q => ?_, fun x d q => ?_⟩
 ·cases q : hT.get? a with
  | none => rfl
  | some o => have := S.off a (hX' a o (S.base a o q) x); exact clash this q
 ·unfold Env.kindOf at q
  rw [hnames] at q
  have : ∃ y ∈ sc.names, y = (n, NameKind.free) := by
   rcases q with q | q
   ·exact relab_inv q (.inl rfl) O.nocell
   ·exact relab_inv q (.inr rfl) O.nocell
  refine xEA this fun y hy z1q => ?_; (try clear this); obtain rfl := z1q
  refine xE (hcell _ hy rfl) fun a ha => ?_
  exact ⟨a, (hlk n hy).trans ha⟩
 ·have e' := hsp n a (mem_of_lk e)
  refine xAAE (S.cells n a e') fun c1 c2 v c3 => ?_
  refine ⟨hXX _ c1, fun q => ?_, v, c3.keeps hk⟩
  have q' : a = C := q
  refine xEA c3 fun o ho _ => ?_; (try clear c3)
  rw [q'] at ho; exact clash hCf ho
 ·exact S.apart n n' a (hsp n a (mem_of_lk e)) (hsp n' a (mem_of_lk e'))
 ·rw [List.lookup_append] at q
  cases hq : ρv.lookup x with
  | some e' =>
   rw [hq] at q
   cases q
   obtain ⟨hx, d, v, rfl, hm, hr⟩ := hv x e hq
   exact ⟨v, .inl ⟨by unfold Env.kindOf; refine rwG hnames ?_; exact relab_local (O.vars x hx), hm⟩, hr⟩
  | none =>
   rw [hq] at q
   apply xAEAq2L (caught_in q); intro hx d hl
   have hf := O.caps x hx
   have hmem := mem_of_lk hf
   have hout := O.free _ hmem rfl
   refine xEEAA S.vars fun m₀ κ _ hvs _ => ?_
   refine xEA (hvs x _ hl) fun v hva hr => ?_
   rcases hva with ⟨hk', _⟩ | ⟨_, a, ha, hc⟩
   ·unfold Env.kindOf at hk'
    rw [hn] at hk'
    dsimp only at hout
    rw [hout] at hk'
    cases hk'
   ·refine ⟨v, .inr ⟨.inl (by unfold Env.kindOf; refine rwG hnames ?_; exact relab_free hf hout), a, (hlk _ hmem).trans ha, hc.keeps hk⟩, ?_⟩
    exact Rd.move (fun a o _ e => hk a o e) (fun a o e x => hX' a o e x) hr
 ·rw [List.lookup_append] at q
  cases hq : ρv.lookup x with
  | some e' => rw [hq] at q; obtain rfl := osi q; obtain ⟨_, d, v, e, _⟩ := hv x _ hq; injection e
  | none => rw [hq] at q; obtain ⟨_, d, e, _⟩ := caught_in q; injection e
 ·rw [List.lookup_append] at q
  cases hq : ρv.lookup x with
  | some e' => rw [hq] at q; obtain rfl := osi q; obtain ⟨_, d, v, e, _⟩ := hv x _ hq; injection e
  | none => rw [hq] at q; obtain ⟨_, d, e, _⟩ := caught_in q; injection e
theorem codeAny_compLoop_gen (I : Nat -> Shared -> Prop)
  (turn : ∀ n s, I n s -> wpAny (model prog w) A (pyNext it) (fun r s₁ => match r with
   | none => R (.ok .next) s₁
   | some v => wpAny (model prog w) A (letOwnedTupleGo target it v) (fun _ s₁' => wpAny (model prog w) A (assign target env v) (fun _ s₂ =>
     wpAny (model prog w) A (forIn ifs true fun c r => if r = true then do let ok <- isTrue c env (eval c env); pure (ForInStep.yield ok) else pure (ForInStep.yield r)) (fun ok s₃ =>
      if ok = true then wpAny (model prog w) A (eval elt env) (fun x s₄ =>
       wpAny (model prog w) A (call (.builtin "list.append") [acc, x]) (fun _ s₅ => ∃ m, m < n /\ I m s₅) FF s₄) FF s₃
      else ∃ m, m < n /\ I m s₃) FF s₂) FF s₁') FF s₁) FF s)
  (n : Nat) (h : I n s) :
  codeAny (model prog w) A (.compLoop (.ListComp elt [⟨target, iter, ifs, 0⟩] scope pos) 0 it acc env) R s := by
 refine codeAny_loop rfl I (fun n s hI => ?_) n h
 show wpAny _ A ((compTurn (.ListComp elt [⟨target, iter, ifs, 0⟩] scope pos) 0 it acc env).onRaise (fun x => do noteFrame x env; theTreesLotGoes x)) _ _ s
 refine wpAny_noted ?_
 rw [compTurn_list]
 refine wpAny_bind (wpAny_standAt (wpAny_bind (wpAny_mono (turn n s hI) (fun r s₁ h₁ => ?_) fun _ _ h' => h'.elim)))
 cases r with
 | none => exact wpAny_pure h₁
 | some v =>
  refine wpAny_bind (wpAny_mono h₁ (fun _ s₁' h₁' => ?_) fun _ _ h' => h'.elim)
  refine wpAny_bind (wpAny_mono h₁' (fun _ s₂ h₂ => wpAny_bind (wpAny_mono h₂ (fun ok s₃ h₃ => ?_) fun _ _ h' => h'.elim)) fun _ _ h' => h'.elim)
  cases ok with
  | false => exact wpAny_pure ⟨rfl, h₃⟩
  | true =>
   exact wpAny_bind (wpAny_bind (wpAny_mono h₃ (fun x s₄ h₄ => wpAny_bind (wpAny_mono h₄ (fun _ s₅ h₅ => wpAny_pure (wpAny_pure ⟨rfl, h₅⟩)) fun _ _ h' => h'.elim)) fun _ _ h' => h'.elim))
structure Src {α : Type} (prog : Program) (w : World) (A : Around) (P : Params) (it : Value) (target : Expr) (fp wr : List Addr) (T : Nat -> Heap -> Prop) (as : List α) (ρf : α -> Ro) (X : Addr -> Prop) (s0 sB : Shared) : Prop where
 sub : ∀ b ∈ wr, b ∈ fp
 frame : ∀ i h h', T i h -> (∀ b ∈ fp, ∀ o, h.get? b = some o -> h'.get? b = some o) -> T i h'
 live : ∀ i h, T i h -> ∀ b ∈ wr, ∃ o, h.get? b = some o
 self : ∀ i (s : Shared) (Q : Value -> Shared -> Prop), T i s.heap -> Q it s -> wpAny (model prog w) A (pyIter it) Q FF s
 done : ∀ (s : Shared) (Q : Option Value -> Shared -> Prop), T as.length s.heap -> (∀ h' tk, (∀ b o, b ∉ wr -> s.heap.get? b = some o -> h'.get? b = some o) -> Q none { s with heap := h', toks := tk }) -> wpAny (model prog w) A (pyNext it) Q FF s
 next : ∀ (cenv : Env) (m : Str -> Option Value) i a (s : Shared) (Q : Unit -> Shared -> Prop), as[i]? = some a -> T i s.heap -> s.heap.Ns cenv.locals m -> cenv.locals ∉ fp -> (∀ b o, b ∉ wr -> sB.heap.get? b = some o -> s.heap.get? b = some o) ->
  (∀ x e, (ρf a).lookup x = some e -> cenv.kindOf (ofString x) = some .local) -> cenv.scope.kind = .function ->
  (∀ h' tk m', h'.Ns cenv.locals m' -> T (i + 1) h' -> (∀ b o, b ∉ wr -> b ≠ cenv.locals -> s.heap.get? b = some o -> h'.get? b = some o) ->
   (∀ x e, (ρf a).lookup x = some e -> ∃ d v, e = .v d /\ m' (ofString x) = some v /\ Rd P s0.heap X d v) -> Q () { s with heap := h', toks := tk }) ->
  wpAny (model prog w) A (pyNext it) (fun r s₁ => ∃ v, r = some v /\ wpAny (model prog w) A (letOwnedTupleGo target it v) (fun _ s₂ => wpAny (model prog w) A (assign target cenv v) Q FF s₂) FF s₁) FF s
theorem rds_push {vs : Array Value} (a : Rds P h X ds vs.toList) (b : Rd P h X d v) : Rds P h X (ds ++ [d]) (vs.push v).toList := by
 refine rwG Array.toList_push ?_
 exact a.append (.cons b .nil)
theorem comp_core {xs caps : List String} {elt target iter : Expr} {fs : List Expr} {pos : Pos} {it : Value} {fp wr : List Addr} {T : Nat -> Heap -> Prop}
  {as : List α} {ρf : α -> Ro} {ce : CE} {cifs : CL} {K : List D -> Prop} {RR : Value -> Addr -> Result -> Shared -> Prop}
  (he : EvS prog w hT c A ce) (hf : TsS prog w hT c A cifs) (hme : mE (relab names sc.names) ce elt = true) (hmf : mL (relab names sc.names) cifs fs = true) (hown : ce.isOwn = false)
  (hn : env.scope.names = names) (S : St w.params hT env X₀ X ρ s.heap) (k₂ : Keeps s s₂) (O : ScOk names sc xs caps)
  (W : Src prog w A w.params it target fp wr T as ρf X s s₂) (hT0 : T 0 s₂.heap) (hfp : ∀ b ∈ fp, b < s₂.heap.objs.size) (hwr : ∀ b ∈ wr, s.heap.get? b = none) (hsz : as.length <= sizeLine)
  (hvars : ∀ a ∈ as, ∀ x e, (ρf a).lookup x = some e -> x ∈ xs)
  (hw : compL (fun a => testsW c (ρf a ++ caught ρ caps) cifs) (fun a => evW c (ρf a ++ caught ρ caps) ce) as [] K)
  (hRR : ∀ D C h' tk m' ys n rs, s₂.heap.get? D = none -> s₂.heap.get? C = none -> D ≠ C -> h'.Ns C m' -> h'.get? D = some (listOf ys n) -> K rs -> Rds w.params h' (fun a => X a \/ a = C \/ a = D \/ a ∈ wr) rs ys.toList ->
   (∀ b o, b ∉ wr -> s₂.heap.get? b = some o -> h'.get? b = some o) -> RR (.ref D) C (.ok .next) { s₂ with heap := h', toks := tk }) :
  wpAny (model prog w) A (newList []) (fun acc s₃ => wpAny (model prog w) A (newFunctionEnv sc env.globals (closL env.cells sc.names []) [] env.qual none .none (some env)) (fun cenv s₄ =>
   codeAny (model prog w) A (.compStart (.ListComp elt [⟨target, iter, fs, 0⟩] sc pos) 0 it acc { cenv with scope := relabel sc env }) (RR acc cenv.locals) s₄) FF s₃) FF s₂ := by
 refine wpAny_newObj_type (wpAny_newFunctionEnv O.nocell (by intro y hy; simp at hy) (fun h₁ hns₁ hsb₁ => ?_) O.kind)
 dsimp only at hns₁ hsb₁ ⊢
 generalize hH2 : s₂.heap.push { cls := .type "list", dict := none, data := .seq ([] : List Value).toArray } = H2 at hns₁ hsb₁ ⊢
 have hC : H2.objs.size = s₂.heap.objs.size + 1 := by rw [<- hH2, Heap.size_push]
 obtain ⟨D, hDd⟩ : ∃ D : Nat, D = s₂.heap.objs.size := ⟨_, rfl⟩
 obtain ⟨C, hCd⟩ : ∃ C : Nat, C = H2.objs.size := ⟨_, rfl⟩
 rw [<- hCd] at hns₁ hsb₁ ⊢
 rw [<- hDd] at ⊢
 have hC : C = D + 1 := by rw [hCd, <- hH2, Heap.size_push, hDd]
 have hDC : D ≠ C := by lia
 have lt₂ : ∀ {b : Addr} {o}, s₂.heap.get? b = some o -> @LT.lt Nat _ b D := fun e => by rw [hDd]; exact Heap.lt_size e
 have below : ∀ {b : Addr} {o}, s₂.heap.get? b = some o -> b ≠ C /\ b ≠ D := fun {b o} e => by
  have := lt₂ e
  exact ⟨fun q => by subst q; lia, fun q => by subst q; lia⟩
 have hDf : D ∉ fp := fun hm => by
  have : @LT.lt Nat _ D D := by (conv => rhs; rw [hDd]); exact hfp _ hm
  lia
 have hCf : C ∉ fp := fun hm => by
  have : @LT.lt Nat _ C D := by (conv => rhs; rw [hDd]); exact hfp _ hm
  lia
 have hDw : D ∉ wr := fun hm => hDf (W.sub _ hm)
 have hCw : C ∉ wr := fun hm => hCf (W.sub _ hm)
 have old : ∀ b o, s₂.heap.get? b = some o -> h₁.get? b = some o := fun b o e => hsb₁.extBut b o (below e).1 (Heap.get?_push_of_some _ (hH2 ▸ Heap.get?_push_of_some _ e))
 have hacc : h₁.get? D = some (listOf #[] 0) := hsb₁.extBut _ _ hDC (Heap.get?_push_of_some _ (by refine rwG (Eq.symm hH2) (rwG hDd ?_); exact Heap.get?_push_size _ rfl))
 have fresh : ∀ a : Nat, D <= a -> s₂.heap.get? a = none := fun a ha => by
  cases e : s₂.heap.get? a with
  | none => rfl
  | some o' => have := lt₂ e; lia
 have fresh0 : ∀ a : Nat, D <= a -> s.heap.get? a = none := fun a ha => by
  cases e : s.heap.get? a with
  | none => rfl
  | some o' => have := fresh a ha; exact clash this (kh k₂ _ _ e)
 let X' : Addr -> Prop := fun a => X a \/ a = C \/ a = D \/ a ∈ wr
 have hX'1 : ∀ a o, s.heap.get? a = some o -> X' a -> X a := fun a o e x => by
  rcases x with x | rfl | rfl | x
  ·exact x
  ·exact clash (fresh0 _ (by lia)) e
  ·exact clash (fresh0 _ (Nat.le_refl _)) e
  ·exact clash (hwr a x) e
 have hX'2 : ∀ a o, s₂.heap.get? a = some o -> a ∉ wr -> X' a -> X a := fun a o e hw x => by
  rcases x with x | rfl | rfl | x
  ·exact x
  ·exact clash (fresh _ (by lia)) e
  ·exact clash (fresh _ (Nat.le_refl _)) e
  ·exact absurd x hw
 let cenv : Env := compEnvC sc (closL env.cells sc.names []) C env
 have hnames : cenv.scope.names = relab names sc.names := by
  show (relabel sc env).names = _
  unfold relabel relab
  dsimp only
  refine map_congr_left fun y _ => ?_
  refine rwG S.fn ?_
  unfold Env.kindOf
  refine rwG hn ?_
  simp
 let Inv : Nat -> Shared -> Prop := fun k s' => ∃ h' tk m' ys n i acc, s' = { s₂ with heap := h', toks := tk } /\ T i h' /\ h'.get? D = some (listOf ys n) /\ h'.Ns C m' /\ Rds w.params h' X' acc ys.toList /\
    compL (fun a => testsW c (ρf a ++ caught ρ caps) cifs) (fun a => evW c (ρf a ++ caught ρ caps) ce) (as.drop i) acc K /\ acc.length <= i /\ i <= as.length /\ k = as.length + 1 - i /\
    (∀ b o, b ∉ wr -> s₂.heap.get? b = some o -> h'.get? b = some o)
 have loop : ∀ s₃ : Shared, s₃ = { s₂ with heap := h₁, toks := s₂.toks + ([] : List (Str × Value)).length } ->
   codeAny (model prog w) A (.compLoop (.ListComp elt [⟨target, iter, fs, 0⟩] sc pos) 0 it (.ref D) cenv) (RR (.ref D) C) s₃ := by
  rintro s₃ rfl
  refine codeAny_compLoop_gen Inv ?_ (as.length + 1)
   ⟨h₁, _, _, #[], 0, 0, [], rfl, W.frame _ _ _ hT0 fun b _ o e => old b o e, hacc, hns₁, .nil, hw, Nat.le_refl _, Nat.zero_le _, rfl, fun b o _ e => old b o e⟩
  rintro k s' ⟨H, tk, m', ys, n, i, acc, rfl, hT', hacc', hn', hR, hw', hai, hi, rfl, hk⟩
  have hlen : ys.size = acc.length := by rw [hR.length]; simp
  by_cases hlt : i < as.length
  ·obtain ⟨a, ha⟩ : ∃ a, as[i]? = some a := ⟨as[i], by simp [hlt]⟩
   have hdrop : as.drop i = a :: as.drop (i + 1) := by
    rw [List.drop_eq_getElem_cons hlt]
    congr 1
    have := List.getElem?_eq_getElem hlt
    rw [ha] at this; exact (osi this).symm
   rw [hdrop] at hw'
   unfold compL at hw'
   have hmem : a ∈ as := List.mem_of_getElem? ha
   let NX : Shared -> Prop := fun s' => ∃ m, m < as.length + 1 - i /\ Inv m s'
   let Qn : Unit -> Shared -> Prop := fun _ s₂' => wpAny (model prog w) A (forIn fs true fun c r => if r = true then do let ok <- isTrue c cenv (eval c cenv); pure (ForInStep.yield ok) else pure (ForInStep.yield r)) (fun ok s₃ =>
      if ok = true then wpAny (model prog w) A (eval elt cenv) (fun x s₄ =>
       wpAny (model prog w) A (call (.builtin "list.append") [.ref D, x]) (fun _ s₅ => NX s₅) FF s₄) FF s₃
      else NX s₃) FF s₂'
   have key := W.next cenv m' i a { s₂ with heap := H, toks := tk } Qn ha hT' hn' hCf hk (fun x e q => (hnames ▸ relab_local (O.vars x (hvars a hmem x e q)) : cenv.scope.names.lookup (ofString x) = some .local)) O.kind ?_
   ·exact wpAny_mono key (fun r s₁ ⟨v, er, q⟩ => by subst er; exact q) (fun _ _ f => f)
   ·intro h' tk' m'' hn'' hT'' hk' hv
    have up : ∀ b o, b ∉ wr -> s₂.heap.get? b = some o -> h'.get? b = some o := fun b o hb e => hk' b o hb (below e).1 (hk b o hb e)
    have up0 : ∀ b o, s.heap.get? b = some o -> h'.get? b = some o := fun b o e => up b o (fun q => by exact clash (hwr b q) e) (kh k₂ _ _ e)
    have live : ∀ {h'' : Heap}, (∀ b o, h'.get? b = some o -> h''.get? b = some o) -> ∀ a, X' a -> ∃ o, h''.get? a = some o := fun {h''} hq a x => by
     rcases x with x | rfl | rfl | x
     ·obtain ⟨o, e⟩ := S.live a x; exact ⟨o, hq _ _ (up0 _ _ e)⟩
     ·obtain ⟨o, _, _, e, _⟩ := hn''; exact ⟨o, hq _ _ e⟩
     ·exact ⟨_, hq _ _ (hk' _ _ hDw hDC hacc')⟩
     ·obtain ⟨o, e⟩ := W.live _ _ hT'' a x; exact ⟨o, hq _ _ e⟩
    have SI : ∀ s₅ : Shared, (∀ b o, h'.get? b = some o -> s₅.heap.get? b = some o) -> St w.params hT cenv (fun _ => False) X' (ρf a ++ caught ρ caps) s₅.heap := fun s₅ hq =>
     inner_St hn S O (fun b o e => hq _ _ (up0 b o e)) hX'1 (fun a x => .inl x) (live hq) (.inr (.inl rfl)) (fresh0 _ (by lia)) (hn''.keeps hq) fun x e q => by
      apply xEEAAq1L (hv x e q); intro d v hm hr
      refine ⟨hvars a hmem x _ q, d, v, rfl, hm, ?_⟩
      exact hr.move (fun b o _ e => hq _ _ (up0 b o e)) (fun b o e x => hX'1 b o e x)
    have S5 := SI { s₂ with heap := h', toks := tk' } fun _ _ e => e
    refine wpAny_mono (hf _ fs cenv _ _ _ _ _ hmf hnames S5 hw') (fun ok s₃ ⟨k₃, hK⟩ => ?_) (fun _ _ f => f)
    apply xEEAq1L k₃; intro h₃ tk₃ hk₃; (try clear k₃)
    have hacc3 : h₃.get? D = some (listOf ys n) := hk₃ _ _ (hk' _ _ hDw hDC hacc')
    have hR3 : Rds w.params h₃ X' acc ys.toList := hR.move (fun b o hx e => hk₃ _ _ (hk' b o (fun q => hx (.inr (.inr (.inr q)))) (fun q => hx (.inr (.inl q))) e)) (fun _ _ _ x => x)
    have hT3 : T (i + 1) h₃ := W.frame _ _ _ hT'' fun b _ o e => hk₃ b o e
    cases ok with
    | false =>
     exact ⟨as.length + 1 - (i + 1), by lia, h₃, tk₃, m'', ys, n, i + 1, acc, rfl, hT3, hacc3, hn''.keeps hk₃, hR3, hK.2 rfl, by lia, hlt, rfl, fun b o hb e => hk₃ _ _ (up b o hb e)⟩
    | true =>
     simp only [if_true]
     refine he.use hme hnames (SI { s₂ with heap := h₃, toks := tk₃ } hk₃) (hK.1 rfl) fun y s₄ r k₄ S₄ hK₄ hr₄ _ => ?_
     refine xEEA k₄ fun h₄ tk₄ z1q hk₄ => ?_; (try clear k₄); obtain rfl := z1q
     refine wpAny_list_append_plain (hsz := by lia) ⟨n, hk₄ _ _ hacc3⟩ fun h₅ hl₅ hs₅ => ?_
     refine xE hl₅ fun n₅ _ => ?_; clear hl₅; rename_i hl₅
     have hk₅ : ∀ b o, ¬ X' b -> h₄.get? b = some o -> h₅.get? b = some o := fun b o hx e => hs₅.extBut b o (fun q => hx (.inr (.inr (.inl q)))) e
     refine ⟨as.length + 1 - (i + 1), by lia, h₅, tk₄, m'', ys.push y, n₅, i + 1, acc ++ [r], rfl, ?_, hl₅, ((hn''.keeps hk₃).keeps hk₄).sameBut hs₅ (Ne.symm hDC), ?_, hK₄, by simp; lia, hlt, rfl, fun b o hb e => hs₅.extBut b o (below e).2 (hk₄ _ _ (hk₃ _ _ (up b o hb e)))⟩
     ·exact W.frame _ _ _ hT3 fun b hb o e => hs₅.extBut b o (fun q => hDf (q ▸ hb)) (hk₄ b o e)
     ·exact rds_push ((hR3.keeps hk₄).move hk₅ fun _ _ _ x => x) ((hr₄.rd hown).move hk₅ fun _ _ _ x => x)
  ·have hin : i = as.length := by lia
   subst hin
   refine W.done _ _ hT' fun h' tk' hk' => ?_
   have hw2 : K acc := by
    have := hw'
    rw [List.drop_length] at this
    exact this
   refine hRR D C h' tk' m' ys n acc (fresh _ (Nat.le_refl _)) (fresh _ (by lia)) hDC (hn'.at' fun o e => hk' _ o hCw e) (hk' _ _ hDw hacc') hw2 (hR.move (fun b o hx e => hk' b o (fun q => hx (.inr (.inr (.inr q)))) e) fun _ _ _ x => x) fun b o hb e => hk' b o hb (hk b o hb e)
 exact codeAny_compStart_list (loop _ rfl) (wpAny_mono (W.self 0 _ _ (W.frame _ _ _ hT0 fun b _ o e => old b o e) (loop _ rfl)) (fun _ _ q => q) (fun _ _ f => f.elim))
theorem plain_kind {env : Env} (h : env.scope.kind = .function) : (env.scope.kind == .class || (env.scope.kind == .module && env.locals != env.globals)) = false := by refine rwG h ?_; rfl
theorem look_eq {x : String} : ((x, e) :: ρ).lookup x = some e := by rw [lookup_cons, beq_self_eq_true]
theorem look_ne {x y : String} (h : (y == x) = false) : ((x, e) :: ρ).lookup y = ρ.lookup y := by exact rwG lookup_cons (rwG h rfl)
theorem look_two {x y z : String} (q : [(x, a), (y, b)].lookup z = some e) : (z = x /\ e = a) \/ (z = y /\ e = b) := by
 rw [lookup_cons, lookup_cons] at q
 cases hb : z == x with
 | true => rw [hb] at q; exact .inl ⟨beq_iff_eq.mp hb, (osi q).symm⟩
 | false =>
  rw [hb] at q
  cases hb' : z == y with
  | true => rw [hb'] at q; exact .inr ⟨beq_iff_eq.mp hb', (osi q).symm⟩
  | false => rw [hb'] at q; injection q
theorem src_name {px : Pos} (hx : isNm x n = true) (h : ItOK prog w A X own s itv ds s₂) :
  ∃ I fp wr T, itv = .ref I /\ Src prog w A w.params itv (.Name n px) fp wr T ds (fun d => [(x, .v d)]) X s s₂ /\ T 0 s₂.heap /\ (∀ b ∈ fp, b < s₂.heap.objs.size) /\ (∀ b ∈ wr, s.heap.get? b = none) /\ (own = false -> ∀ b ∈ fp, b ∈ wr \/ ¬ X b) := by
 refine xE5A7 h fun I fp wr P T e W h0 hfp hwr hl ho hr => ?_
 subst e
 apply xAAq1L (nm_ok hx); intro _ _
 refine ⟨I, fp, wr, T, rfl, ⟨W.sub, W.frame, fun i h st b hb => hl i h st b (W.sub b hb), fun i s Q st q => W.self i s Q _ st q, fun s Q st q => W.done s Q _ st q, ?_⟩, h0, hfp, hwr, ho⟩
 intro cenv m i a s' Q ha hTi hn hC hk hkind hfn hQ
 have hlt : i < ds.length := by
  rcases Nat.lt_or_ge i ds.length with h | h
  ·exact h
  ·exact clash (List.getElem?_eq_none h) ha
 refine W.item i s' _ _ hlt hTi fun v h₁ tk₁ hP hT₁ hk₁ => ⟨v, rfl, ?_⟩
 show wpAny _ _ (pure ()) _ _ _
 refine wpAny_pure (wpAny_assign_Name (wpAny_storeName_local (hkind x (.v a) (by simp)) (hn.at' fun o e => hk₁ _ o (fun q => hC (W.sub _ q)) e) (fun h₂ hn₂ hs₂ => ?_) (plain_kind hfn)))
 refine hQ h₂ _ _ hn₂ (W.frame _ _ _ hT₁ fun b hb o e => hs₂.extBut b o (fun q => hC (q ▸ hb)) e) (fun b o hb hbC e => hs₂.extBut b o hbC (hk₁ b o hb e)) fun y e q => ?_
 rw [lookup_cons] at q
 cases hb : y == x with
 | false => rw [hb] at q; injection q
 | true =>
  rw [hb] at q
  obtain rfl := osi q
  obtain rfl := beq_iff_eq.mp hb
  exact ⟨a, v, rfl, by simp, hr i v a hP ha⟩
theorem inv_comp (hm : mE names (.comp elt x it ifs caps) ex = true) : ∃ e n px iter fs sc pos, ex = .ListComp e [⟨.Name n px, iter, fs, 0⟩] sc pos /\ isNm x n = true /\ mI names it iter = true /\
  ScOk names sc [x] caps /\ mE (relab names sc.names) elt e = true /\ mL (relab names sc.names) ifs fs = true /\ elt.isOwn = false := by
 refine wLc_E hm fun e gs sc pos hm => ?_
 refine w1_E hm fun z1q hm => ?_; obtain ⟨t, iter, fs, k⟩ := z1q
 refine xEEA (wName_inv hm) fun n px e1 hm => ?_
 refine an7 hm fun h1 h2 h3 h4 h5 h6 h7 => ?_
 exact ⟨_, _, _, _, _, _, _, by exact rwG (show t = _ from e1) (rwG (show k = _ from beq_iff_eq.mp h1) rfl), h2, h3, scOk_of h4, h5, h6, not_t h7⟩
theorem clos_ok (hn : env.scope.names = names) (S : St w.params hT env X₀ X ρ h) (O : ScOk names sc xs caps) : closureFor sc env = pure (closL env.cells sc.names []) :=
 closure_of fun y hy e => S.celled y.1 (.inl (by unfold Env.kindOf; refine rwG hn ?_; exact O.free y hy e))
theorem keeps_of (k : Keeps s s₂) (hk : ∀ b o, s.heap.get? b = some o -> h''.get? b = some o) : Keeps s { s₂ with heap := h'', toks := tk } := by
 apply xEEAq1L k; intro h t _; (try clear k)
 exact ⟨h'', tk, rfl, hk⟩
theorem comp_end {wr : List Addr} {D C : Addr} {n : Nat} {rs : List Mine.D} (S : St w.params hT env X₀ X ρ sA.heap) (kA : Keeps s sA) (kB : Keeps sA s₂) (hwr : ∀ b ∈ wr, sA.heap.get? b = none)
  (hD : s₂.heap.get? D = none) (hC : s₂.heap.get? C = none) (hDC : D ≠ C) (hgD : h'.get? D = some (listOf ys n)) (hR : Rds w.params h' (fun a => X a \/ a = C \/ a = D \/ a ∈ wr) rs ys.toList)
  (hk : ∀ b o, b ∉ wr -> s₂.heap.get? b = some o -> h'.get? b = some o) (hs : Heap.SameBut C h' h'') : Keeps s { s₂ with heap := h'', toks := tk } /\ Rd w.params h'' X (.list rs) (.ref D) /\ s.heap.get? D = none := by
 have old : ∀ b o, sA.heap.get? b = some o -> h''.get? b = some o := fun b o e => hs.extBut b o (fun q => by subst q; exact clash hC (kh kB _ _ e)) (hk b o (fun q => by exact clash (hwr b q) e) (kh kB _ _ e))
 refine ⟨keeps_of (kt kA kB) fun b o e => old b o (kh kA _ _ e), .list (fun x => ?_) (hs.extBut _ _ hDC hgD) ?_, ?_⟩
 ·refine xE (S.live _ x) fun o e => ?_
  exact clash hD (kh kB _ _ e)
 ·exact hR.move (fun b o hx e => hs.extBut b o (fun q => hx (.inr (.inl q))) e) (fun a _ _ x => .inl x)
 ·cases q : s.heap.get? D with
  | none => rfl
  | some o => exact clash hD (kh (kt kA kB) _ _ q)
noncomputable def CompQ (w : World) (X : Addr -> Prop) (s : Shared) (K : D -> Prop) (post : Value -> Addr -> Shared -> Prop) : Prop :=
 ∀ (sA s₂ : Shared) (wr : List Addr) (D C : Addr) h' tk m' ys n rs, Keeps s sA -> Keeps sA s₂ -> (∀ b ∈ wr, sA.heap.get? b = none) -> s₂.heap.get? D = none -> s₂.heap.get? C = none -> D ≠ C -> h'.Ns C m' -> h'.get? D = some (listOf ys n) -> K (.list rs) ->
  Rds w.params h' (fun a => X a \/ a = C \/ a = D \/ a ∈ wr) rs ys.toList -> (∀ b o, b ∉ wr -> s₂.heap.get? b = some o -> h'.get? b = some o) -> post (.ref D) C { s₂ with heap := h', toks := tk }
noncomputable def CrS (prog : Program) (w : World) (hT : Heap) (c : Cx) (A : Around) (e : CE) : Prop := ∀ names ex env ρ X₀ X s K, mE names e ex = true -> env.scope.names = names -> St w.params hT env X₀ X ρ s.heap -> evW c ρ e K ->
 ∃ elt g sc pos, ex = .ListComp elt [g] sc pos /\ g.is_async = 0 /\ ∀ use Q, CompQ w X s K (fun acc C s' => compPost (model prog w) A FF use Q acc C (.ok .next) s') ->
  wpAny (model prog w) A (comprehension ex sc env (firstIterPos [g] pos) (newList []) false (firstIter [g] env) use) Q FF s
theorem cr_comp (he : EvS prog w hT c A elt) (hi : ItS prog w hT c A it) (hf : TsS prog w hT c A ifs) : CrS prog w hT c A (.comp elt x it ifs caps) := by
 intro names ex env ρ X₀ X s K hm hn S hw
 obtain ⟨e, n, px, iter, fs, sc, pos, rfl, h1, h2, O, h4, h5, h6⟩ := inv_comp hm
 refine xA (hi names iter env ρ X₀ X s _ h2 hn S hw) fun hs hev => ?_
 refine ⟨e, _, sc, pos, rfl, rfl, fun use Q hQ => ?_⟩
 refine wpAny_comprehension_free (use := use) rfl hs (clos_ok hn S O) O.kind O.loc (wpAny_mono hev (fun xv s₁ h₁ => wpAny_mono h₁ (fun itv s₂ h₂ => ?_) fun _ _ f => f) fun _ _ f => f)
 obtain ⟨k₂, ds, sA, ⟨hsz, hK⟩, kA, kB, I⟩ := h₂
 refine xEEEEAAAAA (src_name (px := px) h1 I) fun Ia fp wr T z1q W hT0 hfp hwr _ => ?_; obtain rfl := z1q
 refine comp_core (K := fun rs => K (.list rs)) (RR := fun acc C => compPost (model prog w) A FF use Q acc C) he hf h4 h5 h6 hn (S.to kA) kB O W hT0 hfp hwr hsz (fun a _ y e q => ?_) hK ?_
 ·rw [lookup_cons] at q
  cases hb : y == x with
  | false => rw [hb] at q; injection q
  | true => refine rwG (beq_iff_eq.mp hb) ?_; exact mem_cons_self
 ·intro D C h' tk m' ys n rs hD hC hDC hns hgD hKr hR hk
  exact hQ sA s₂ wr D C h' tk m' ys n rs kA kB hwr hD hC hDC hns hgD hKr hR hk
theorem ev_of_cr {e : CE} (hr : CrS prog w hT c A e) (hf : e.isOwn = false) : EvS prog w hT c A e := by
 intro names ex env ρ X₀ X s K hm hn S hw
 refine xEEEEAA (hr names ex env ρ X₀ X s K hm hn S hw) fun elt g sc pos z1q hg h => ?_; obtain rfl := z1q
 have e1 : firstAsync [g] = false := by obtain ⟨_, _, _, a⟩ := g; have : a = 0 := hg; subst this; rfl
 rw [eval_ListComp, e1]
 refine h none _ ?_
 intro sA s₂ wr D C h' tk m' ys n rs kA kB hwr hD hC hDC hns hgD hKr hR hk
 refine ⟨m', hns, fun h'' hs'' => ?_⟩
 obtain ⟨q1, q2, q3⟩ := comp_end (S.to kA) kA kB hwr hD hC hDC hgD hR hk hs''
 exact ⟨q1, .list rs, hKr, RdE.of q2, fun _ _ _ a ea => by injection ea with ea; subst ea; exact q3⟩
theorem ev_comp (he : EvS prog w hT c A elt) (hi : ItS prog w hT c A it) (hf : TsS prog w hT c A ifs) : EvS prog w hT c A (.comp elt x it ifs caps) := ev_of_cr (cr_comp he hi hf) rfl
theorem src_pair (hh : A.handled = none) {X : Addr -> Prop} {s s₂ : Shared} {xs ys : Array Value} {ps qs : List D} {x y : String} {px px' tp : Pos} {tk : Nat} (hxy : x ≠ y)
  (r1 : Rds w.params s.heap X ps xs.toList) (r2 : Rds w.params s.heap X qs ys.toList) (W : WalksT prog w A Z fp wr (min xs.size ys.size) (fun i vals => ∃ x y, xs[i]? = some x /\ ys[i]? = some y /\ vals = #[x, y]) T Mid)
  (live : ∀ i h, T i h -> ∀ b ∈ wr, ∃ o, h.get? b = some o) :
  Src prog w A w.params (.ref Z) (.Tuple [.Name (ofString x) px, .Name (ofString y) px'] tk tp) fp wr T (ps.zip qs) (fun d => [(x, .v d.1), (y, .v d.2)]) X s s₂ := by
 have len : (ps.zip qs).length = min xs.size ys.size := by refine rwG List.length_zip (rwG r1.length (rwG r2.length ?_)); rfl
 refine ⟨W.sub, W.frame, live, fun i s Q st q => W.self i s Q _ st q, fun s Q st q => W.done s Q _ (len ▸ st) q, ?_⟩
 intro cenv m i a s' Q ha hTi hn hC hk' hkind hfn hQ
 have hlt : i < min xs.size ys.size := len ▸ (List.getElem?_eq_some_iff.mp ha).1
 have hab := List.getElem?_zip_eq_some.mp ha
 refine W.item i s' _ _ hlt hTi fun T vals h₁ tk₁ hP hsz' hIs hMid hk₁ => ⟨.ref T, rfl, ?_⟩
 refine xEEAA hP fun vx vy e1 e2 e3 => ?_
 subst e3
 refine W.go _ _ _ i T _ _ _ hMid fun h₂ hT₂ hk₂ => ?_
 have hIs₂ : h₂.IsTuple T #[vx, vy] := hIs.at fun o e => hk₂ _ _ (W.apart _ _ _ hMid) e
 have hn₂ : h₂.Ns cenv.locals m := (hn.at' fun o e => hk₁ _ o (fun q => hC (W.sub _ q)) e).at' fun o e => hk₂ _ o (fun q => hC (W.sub _ q)) e
 have d1 : Rd w.params s.heap X a.1 vx := xEA (r1.get hab.1) fun v g d => osi (g.symm.trans (Array.getElem?_toList.trans e1)) ▸ d
 have d2 : Rd w.params s.heap X a.2 vy := xEA (r2.get hab.2) fun v g d => osi (g.symm.trans (Array.getElem?_toList.trans e2)) ▸ d
 have hq : ∀ h₃ : Heap, (∀ b o, b ≠ h₂.objs.size -> h₂.get? b = some o -> h₃.get? b = some o) -> wpAny (model prog w) A (assignInOrder [assign (.Name (ofString x) px) cenv, assign (.Name (ofString y) px') cenv] [vx, vy]) Q FF { s' with heap := h₃, toks := tk₁ } := fun h₃ he₃ => by
  have hne : ∀ {b : Addr} {o}, h₂.get? b = some o -> b ≠ h₂.objs.size := fun e => Nat.ne_of_lt (Heap.lt_size e)
  have hn₃ : h₃.Ns cenv.locals m := hn₂.at' fun o e => he₃ _ o (hne e) e
  have hT₃ := W.frame _ _ h₃ hT₂ fun b _ o e => he₃ _ o (hne e) e
  have hk₃ : ∀ b o, b ∉ wr -> s'.heap.get? b = some o -> h₃.get? b = some o := fun b o hb e => have e := hk₂ b o hb (hk₁ b o hb e); he₃ b o (hne e) e
  clear hIs hIs₂ hn₂ hT₂ hMid hn hTi hk₁ hk₂ he₃
  show wpAny _ _ (do holding [vy] (assign (.Name (ofString x) px) cenv vx); assignInOrder [assign (.Name (ofString y) px') cenv] [vy]) _ _ _
  refine wpAny_bind (wpAny_holding (wpAny_assign_Name (wpAny_storeName_local (hkind x (.v a.1) look_eq) hn₃ (fun h₄ hn₄ hs₄ => ?_) (plain_kind hfn))))
  show wpAny _ _ (do holding [] (assign (.Name (ofString y) px') cenv vy); assignInOrder [] []) _ _ _
  refine wpAny_bind (wpAny_holding (wpAny_assign_Name (wpAny_storeName_local (hkind y (.v a.2) (by refine rwG (look_ne (beq_eq_false_iff_ne.mpr (Ne.symm hxy))) ?_; exact look_eq)) hn₄ (fun h₅ hn₅ hs₅ => ?_) (plain_kind hfn))))
  refine wpAny_pure (hQ h₅ _ _ hn₅ (W.frame _ _ _ hT₃ fun b hb o e => hs₅.extBut b o (fun q => hC (q ▸ hb)) (hs₄.extBut b o (fun q => hC (q ▸ hb)) e)) (fun b o hb hbC e => hs₅.extBut b o hbC (hs₄.extBut b o hbC (hk₃ b o hb e))) fun z e q => ?_)
  rcases look_two q with ⟨rfl, rfl⟩ | ⟨rfl, rfl⟩
  ·exact ⟨_, vx, rfl, by exact rwG (if_neg (fun q => hxy (ofString_inj q))) (rwG (if_pos rfl) rfl), d1⟩
  ·exact ⟨_, vy, rfl, if_pos rfl, d2⟩
 exact wpAny_assign_Tuple hh hIs₂ rfl rfl fun h₃ he₃ => hq h₃ he₃
theorem src_zip (hh : A.handled = none) {x y : String} {n n' : Str} {px px' tp : Pos} {tk : Nat} (hx : isNm x n = true) (hy : isNm y n' = true) (hxy : x ≠ y)
  (h1 : s.heap.get? l1 = some (listOf xs n1)) (h2 : s.heap.get? l2 = some (listOf ys n2)) (r1 : Rds w.params s.heap X ps xs.toList) (r2 : Rds w.params s.heap X qs ys.toList) {Q : Value -> Shared -> Prop}
  (h : ∀ z fp wr T s₂, Keeps s s₂ -> Src prog w A w.params (.ref z) (.Tuple [.Name n px, .Name n' px'] tk tp) fp wr T (ps.zip qs) (fun d => [(x, .v d.1), (y, .v d.2)]) X s s₂ -> T 0 s₂.heap -> (∀ b ∈ fp, b < s₂.heap.objs.size) -> (∀ b ∈ wr, s.heap.get? b = none) -> Q (.ref z) s₂) :
  wpAny (model prog w) A (call (.type "zip") [.ref l1, .ref l2]) Q FF s := by
 obtain rfl := (nm_ok hx).1
 obtain rfl := (nm_ok hy).1
 have L1 : s.heap.IsList l1 xs := ⟨_, h1, rfl, _, rfl⟩
 have L2 : s.heap.IsList l2 ys := ⟨_, h2, rfl, _, rfl⟩
 have b1 : @LT.lt Nat _ l1 s.heap.objs.size := Heap.lt_size h1
 have b2 : @LT.lt Nat _ l2 s.heap.objs.size := Heap.lt_size h2
 have fr : ∀ b : Nat, s.heap.objs.size <= b -> s.heap.get? b = none := fun b hb => by
  cases e : s.heap.get? b with
  | none => rfl
  | some o => exact absurd (Heap.lt_size e) (Nat.not_lt.mpr hb)
 refine call_zip_2 L1 L2 fun h' hz hTI hTO hi1 hi2 hsz hk => ?_
 generalize s.heap.objs.size = N at *
 have D : ZipApart (N + 4) (N + 2) (N + 3) N (N + 1) l1 l2 := by
  have ne : ∀ {a b : Nat}, a ≠ b -> (a : Addr) ≠ b := fun h => h
  constructor <;> apply ne <;> lia
 refine h _ _ _ _ { s with heap := h' } ⟨h', s.toks, rfl, hk⟩ (src_pair hh hxy r1 r2 (WalksT.zip2 hh _ _ _ _ _ l1 l2 D xs ys) fun i h st b hb => ?_) ⟨hz, hTI, ⟨_, _, hTO⟩, hi1, hi2, L1.at fun o e => hk _ _ e, L2.at fun o e => hk _ _ e⟩ (fun b hb => ?_) fun b hb => ?_
 ·simp only [mem_cons, not_mem_nil, or_false] at hb
  rcases hb with rfl | rfl | rfl | rfl
  ·exact ⟨_, st.1⟩
  ·exact st.2.2.1.elim fun _ q => q.elim fun _ q => ⟨_, q⟩
  ·exact st.2.2.2.1.imp fun _ q => q.1
  ·exact st.2.2.2.2.1.imp fun _ q => q.1
 ·show @LT.lt Nat _ b h'.objs.size
  refine rwG hsz ?_
  simp only [mem_cons, not_mem_nil, or_false] at hb
  rcases hb with rfl | rfl | rfl | rfl | rfl | rfl | rfl <;> lia
 ·simp only [mem_cons, not_mem_nil, or_false] at hb
  rcases hb with rfl | rfl | rfl | rfl <;> exact fr _ (by lia)
theorem inv_compP {C : Prop} (hm : mE names (.compP elt x y a b ifs caps) ex = true) (c : ∀ e n px n' px' tk tp z zp ea eb cp fs sc pos,
  ex = .ListComp e [⟨.Tuple [.Name n px, .Name n' px'] tk tp, .Call (.Name z zp) [ea, eb] [] cp, fs, 0⟩] sc pos -> isNm x n = true -> isNm y n' = true -> x ≠ y -> isNm "zip" z = true -> (names.lookup z == some NameKind.globalImplicit) = true -> mE names a ea = true -> mE names b eb = true ->
  a.isOwn = false -> b.isOwn = false -> ScOk names sc [x, y] caps -> mE (relab names sc.names) elt e = true -> mL (relab names sc.names) ifs fs = true -> elt.isOwn = false -> C) : C := by
 refine xEEEEA (wLc_inv hm) fun e gs sc pos e0 hm => ?_
 refine xEA (w1_inv hm) fun g e1 hm => ?_
 obtain ⟨t, iter, fs, k⟩ := g
 refine xEEEA (wTup_inv hm) fun ts tk tp e2 hm => ?_
 refine xEEA (w2_inv hm) fun t1 t2 e3 hm => ?_
 refine xEEA (wName_inv hm) fun n px e4 hm => ?_
 refine xEEA (wName_inv hm) fun n' px' e5 hm => ?_
 refine xEEEEA (wCall_inv hm) fun f as ks cp e6 hm => ?_
 refine xA (w0_inv hm) fun e7 hm => ?_
 refine xEEA (w2_inv hm) fun ea eb e8 hm => ?_
 refine xEEA (wName_inv hm) fun z zp e9 hm => ?_
 refine an14 hm fun q0 q1 q2 q3 q4 q5 q6 q7 q8 q9 q10 q11 q12 q13 => ?_
 refine c e n px n' px' tk tp z zp ea eb cp fs sc pos ?_ q1 q2 (bne_iff_ne.mp q3) q4 q5 q6 q7 (not_t q8) (not_t q9) (scOk_of q10) q11 q12 (not_t q13)
 exact rwG e0 (rwG e1 (rwG (show t = _ from e2) (rwG e3 (rwG e4 (rwG e5 (rwG (show iter = _ from e6) (rwG e7 (rwG e8 (rwG e9 (rwG (show k = _ from beq_iff_eq.mp q0) rfl))))))))))
theorem cr_compP (C : CxOK prog w hT c A) (he : EvS prog w hT c A elt) (ha : EvS prog w hT c A a) (hb : EvS prog w hT c A b) (hf : TsS prog w hT c A ifs) : CrS prog w hT c A (.compP elt x y a b ifs caps) := by
 intro names ex env ρ X₀ X s K hm hn S hw
 refine inv_compP hm fun e n px n' px' tk tp z zp ea eb cp fs sc pos eq h1 h2 h3 h4 h5 h6 h7 h8 h9 O h11 h12 h13 => ?_
 clear hm
 subst eq
 refine ⟨e, _, sc, pos, rfl, rfl, fun use Q hQ => ?_⟩
 refine wpAny_comprehension_free (use := use) rfl (folded_of rfl) (clos_ok hn S O) O.kind O.loc (wpAny_Call_ofName (load_glob C h4 h5 hn S C.gZip fun v hr => hr.valE ?_))
 refine rwG (back2 h6 h7) ?_
 refine PyProof.Rows.callWith_type rfl (Calls.evalArgs_plain (Calls.spliced_cons (ha.use h6 hn S hw fun v s₁ d k S₁ hK hr _ => isL_E hK (hr.rd h8) fun ps l1 xs n1 hK g1 q1 =>
  Calls.spliced_cons (hb.use h7 hn S₁ hK fun v₂ s₂ d₂ k₂ S₂ hK₂ hr₂ _ => isL_E hK₂ (hr₂.rd h9) fun qs l2 ys n2 hK₂ g2 q2 => Calls.spliced_nil ?_))))
 refine xAA hK₂ fun hs1 hs2 hK₂ => ?_
 replace g1 := kh k₂ _ _ g1
 replace q1 := q1.keeps (kh k₂)
 refine src_zip C.hh (px := px) (px' := px') (tp := tp) (tk := tk) h1 h2 h3 g1 g2 q1 q2 fun z fp wr T s₃ k₃ W hT0 hfp hwr => W.self 0 _ _ hT0 ?_
 refine comp_core (K := fun rs => K (.list rs)) (RR := fun acc C => compPost (model prog w) A FF use Q acc C) he hf h11 h12 h13 hn S₂ k₃ O W hT0 hfp hwr (by refine rwG List.length_zip ?_; lia) (fun a _ y' e q => ?_) hK₂ ?_
 ·rw [lookup_cons, lookup_cons] at q
  cases hb : y' == x with
  | true => refine rwG (beq_iff_eq.mp hb) ?_; exact mem_cons_self
  | false =>
   rw [hb] at q
   cases hb' : y' == y with
   | false => rw [hb'] at q; injection q
   | true => refine rwG (beq_iff_eq.mp hb') ?_; exact mem_cons_of_mem _ mem_cons_self
 ·intro D C h' tk m' ys n rs hD hC hDC hns hgD hKr hR hk
  exact hQ s₂ s₃ wr D C h' tk m' ys n rs (kt k k₂) k₃ hwr hD hC hDC hns hgD hKr hR hk
theorem ev_compP (C : CxOK prog w hT c A) (he : EvS prog w hT c A elt) (ha : EvS prog w hT c A a) (hb : EvS prog w hT c A b) (hf : TsS prog w hT c A ifs) : EvS prog w hT c A (.compP elt x y a b ifs caps) := ev_of_cr (cr_compP C he ha hb hf) rfl
mutual
theorem evA (C : CxOK prog w hT c A) : ∀ e : CE, EvS prog w hT c A e /\ IsS prog w hT c A e
 | .lit k => ⟨ev_lit, is_plain ev_lit fun names ex env hm => by exact wConst_E hm fun _ _ _ _ => rfl⟩
 | .var x => ⟨ev_var, is_plain ev_var fun names ex env hm => by exact wName_E hm fun _ _ _ => rfl⟩
 | .own x => ⟨ev_own, fun _ _ _ _ _ _ _ _ _ ho => by injection ho⟩
 | .glob x => ⟨ev_glob C, is_plain (ev_glob C) fun names ex env hm => by exact wName_E hm fun _ _ _ => rfl⟩
 | .bin op a b => have h := ev_bin C (op := op) (evA C a).1 (evA C b).1; ⟨h, is_plain h fun names ex env hm => by exact wBin_E hm fun _ _ _ _ _ => rfl⟩
 | .neg a => have h := ev_neg (evA C a).1; ⟨h, is_plain h fun names ex env hm => by
   refine wUn_E hm fun op x p hm => ?_
   obtain rfl := eq_of_beq (and3 (and3 hm).1).1
   rfl⟩
 | .not a => ⟨ev_not (evA C a).1, is_not (evA C a).2⟩
 | .bop op es => ⟨ev_bop (esA C es).2.1, is_bop (esA C es).2.2.1⟩
 | .ite t a b => ⟨ev_ite (evA C t).2 (evA C a).1 (evA C b).1, is_ite (evA C t).2 (evA C a).2 (evA C b).2⟩
 | .cmp op a b => ⟨ev_cmp C (evA C a).1 (evA C b).1, is_cmp C (evA C a).1 (evA C b).1⟩
 | .call f as => have h := ev_call C (evA C f).1 (esA C as).1; ⟨h, is_plain h fun names ex env hm => by exact wCall_E hm fun _ _ _ _ _ => rfl⟩
 | .meth o m as => have h := ev_meth C (m := m) (evA C o).1 (esA C as).1; ⟨h, is_plain h fun names ex env hm => by exact wCall_E hm fun _ _ _ _ _ => rfl⟩
 | .attr o m => have h := ev_attr C (m := m) (evA C o).1; ⟨h, is_plain h fun names ex env hm => by exact wAtt_E hm fun _ _ _ _ => rfl⟩
 | .item o i => have h := ev_item C (evA C o).1 (evA C i).1; ⟨h, is_plain h fun names ex env hm => by exact wSub_E hm fun _ _ _ _ => rfl⟩
 | .slice o l u st => have h := ev_slice C (evA C o).1 (opA C l) (opA C u) (opA C st); ⟨h, is_plain h fun names ex env hm => by exact wSub_E hm fun _ _ _ _ => rfl⟩
 | .list es => have h := ev_list (esA C es).1; ⟨h, is_plain h fun names ex env hm => by exact wLst_E hm fun _ _ _ => rfl⟩
 | .tup es => have h := ev_tup (esA C es).1; ⟨h, is_plain h fun names ex env hm => by exact wTup_E hm fun _ _ _ _ => rfl⟩
 | .comp elt x it ifs caps => have h := ev_comp (x := x) (caps := caps) (evA C elt).1 (itA C it) (esA C ifs).2.2.2; ⟨h, is_plain h fun names ex env hm => by exact wLc_E hm fun _ _ _ _ _ => rfl⟩
 | .compP elt x y a b ifs caps => have h := ev_compP C (x := x) (y := y) (caps := caps) (evA C elt).1 (evA C a).1 (evA C b).1 (esA C ifs).2.2.2; ⟨h, is_plain h fun names ex env hm => by exact wLc_E hm fun _ _ _ _ _ => rfl⟩
 | .lenO x => ⟨ev_lenO C, is_plain (ev_lenO C) fun names ex env hm => by exact wCall_E hm fun _ _ _ _ _ => rfl⟩
theorem esA (C : CxOK prog w hT c A) : ∀ es : CL, EsS prog w hT c A es /\ BoS prog w hT c A es /\ BiS prog w hT c A es /\ TsS prog w hT c A es
 | .nil => ⟨es_nil, bo_nil, bi_nil, ts_nil⟩
 | .cons e r => ⟨es_cons (evA C e).1 (esA C r).1, bo_cons (evA C e).1 (esA C r).2.1, bi_cons (evA C e).2 (esA C r).2.2.1, ts_cons (evA C e).2 (esA C r).2.2.2⟩
theorem opA (C : CxOK prog w hT c A) : ∀ o : CO, OpS prog w hT c A o
 | .no => op_no
 | .yes e => op_yes (evA C e).1
theorem itA (C : CxOK prog w hT c A) : ∀ i : CI, ItS prog w hT c A i
 | .over e => it_over C.hh (evA C e).1
 | .rng1 e => it_rng1 C (evA C e).1
 | .rng2 a b => it_rng2 C (evA C a).1 (evA C b).1
end
noncomputable def CE.isComp : CE -> Bool
 | .comp .. | .compP .. => true
 | _ => false
theorem crA (C : CxOK prog w hT c A) (h : e.isComp = true) : CrS prog w hT c A e := by
 cases e <;> first | (cases h; done) | skip
 ·exact cr_comp (evA C _).1 (itA C _) (esA C _).2.2.2
 ·exact cr_compP C (evA C _).1 (evA C _).1 (evA C _).1 (esA C _).2.2.2
end
inductive Fl where
 | next
 | brk
 | ret (d : D)
mutual
inductive CS where
 | assign (x : String) (e : CE)
 | assignO (x : String) (e : CE)
 | assignD (x : String)
 | unp (x y : String) (e : CE)
 | swp (x y : String) (a b : CE)
 | multi (x y z : String) (e : CE)
 | aug (x : String) (op : Operator) (e : CE)
 | mutS (x : String) (m : String) (as : CL)
 | setItem (x : String) (i e : CE)
 | setAttr (x : String) (a : String) (e : CE)
 | ifS (t : CE) (a b : CB)
 | forS (x : String) (it : CI) (keep : List String) (body : CB)
 | whileS (t : CE) (keep : List String) (body : CB)
 | ret (e : CE)
 | brk
inductive CB where
 | nil
 | cons (s : CS) (r : CB)
 | freeze (x : String) (r : CB)
end
mutual
noncomputable def CS.sto : CS -> List String
 | .assign x _ | .assignO x _ | .assignD x | .aug x _ _ => [x]
 | .unp x y _ | .swp x y _ _ => [x, y]
 | .multi x y z _ => [x, y, z]
 | .mutS .. | .setItem .. | .setAttr .. | .ret _ | .brk => []
 | .ifS _ a b => a.sto ++ b.sto
 | .forS x _ _ b => x :: b.sto
 | .whileS _ _ b => b.sto
noncomputable def CB.sto : CB -> List String
 | .nil => []
 | .cons s r => s.sto ++ r.sto
 | .freeze _ r => r.sto
end
noncomputable def keepR (keep : List String) (ρ : Ro) : Ro := keep.filterMap fun x => (ρ.lookup x).map fun e => (x, e)
noncomputable def forL (body : D -> Ro -> (Fl -> Ro -> Prop) -> Prop) (keep : List String) : List D -> Ro -> (Fl -> Ro -> Prop) -> Prop
 | [], ρ, K => K .next ρ
 | d :: ds, ρ, K => body d ρ fun fl ρ' => (match fl with
   | .next => forL body keep ds (keepR keep ρ') K
   | .brk => K .next (keepR keep ρ')
   | .ret v => K (.ret v) ρ')
noncomputable def whileL (test : Ro -> (Bool -> Prop) -> Prop) (body : Ro -> (Fl -> Ro -> Prop) -> Prop) (keep : List String) : Nat -> Ro -> (Fl -> Ro -> Prop) -> Prop
 | 0, _, _ => False
 | n + 1, ρ, K => test ρ fun b => (b = true -> body ρ fun fl ρ' => (match fl with
   | .next => whileL test body keep n (keepR keep ρ') K
   | .brk => K .next (keepR keep ρ')
   | .ret v => K (.ret v) ρ')) /\ (b = false -> K .next ρ)
noncomputable def flatAll (ds : List D) : Bool := ds.all D.flat
mutual
noncomputable def exW (c : Cx) : CS -> Ro -> (Fl -> Ro -> Prop) -> Prop
 | .assign x e, ρ, K => evW c ρ e fun d => K .next ((x, .v d) :: ρ)
 | .assignO x e, ρ, K => evW c ρ e fun d => (match d with | .list ds => flatAll ds = true /\ K .next ((x, .own (.list ds)) :: ρ) | _ => False)
 | .assignD x, ρ, K => K .next ((x, .own (.dict [] [])) :: ρ)
 | .unp x y e, ρ, K => evW c ρ e fun d => (match d with | .tup [a, b] => K .next ((y, .v b) :: (x, .v a) :: ρ) | _ => False)
 | .swp x y a b, ρ, K => evW c ρ a fun d => evW c ρ b fun e => K .next ((x, .v d) :: (y, .v e) :: ρ)
 | .multi x y z e, ρ, K => evW c ρ e fun d => K .next ((z, .v d) :: (y, .v d) :: (x, .v d) :: ρ)
 | .aug x op e, ρ, K => (match ρ.lookup x with | some (.v d) => evW c ρ e fun d' => c.aug op d d' fun r => K .next ((x, .v r) :: ρ) | _ => False)
 | .mutS x m as, ρ, K => (match ρ.lookup x with | some (.own d) => (c.mutId m d).isSome = true /\ evsW c ρ as fun ds => c.mutW m d ds fun d' => K .next ((x, .own d') :: ρ) | _ => False)
 | .setItem x i e, ρ, K => (match ρ.lookup x with | some (.own d) => evW c ρ e fun ve => evW c ρ i fun vi => c.setI d vi ve fun d' => K .next ((x, .own d') :: ρ) | _ => False)
 | .setAttr x a e, ρ, K => (match ρ.lookup x with | some (.own d) => evW c ρ e fun ve => c.setA d a ve fun d' => K .next ((x, .own d') :: ρ) | _ => False)
 | .ifS t a b, ρ, K => evW c ρ t (onBool fun q => (q = true -> exsW c a ρ K) /\ (q = false -> exsW c b ρ K))
 | .forS x it keep body, ρ, K => itW c ρ it fun ds => forL (fun d ρ' => exsW c body ((x, .v d) :: ρ')) keep ds (keepR keep ρ) K
 | .whileS t keep body, ρ, K => ∃ n, whileL (fun ρ' q => evW c ρ' t (onBool q)) (fun ρ' => exsW c body ρ') keep n (keepR keep ρ) K
 | .ret e, ρ, K => evW c ρ e fun d => K (.ret d) ρ
 | .brk, ρ, K => K .brk ρ
noncomputable def exsW (c : Cx) : CB -> Ro -> (Fl -> Ro -> Prop) -> Prop
 | .nil, ρ, K => K .next ρ
 | .cons s r, ρ, K => exW c s ρ fun fl ρ' => (match fl with | .next => exsW c r ρ' K | f => K f ρ')
 | .freeze x r, ρ, K => (match ρ.lookup x with | some (.own d) => exsW c r ((x, .v d) :: ρ) K | _ => False)
end
noncomputable def isComp : Expr -> Bool
 | .ListComp .. | .SetComp .. | .DictComp .. => true
 | _ => false
noncomputable def isStore (names : List (Str × NameKind)) (x : String) (n : Str) : Bool := isNm x n && (names.lookup n == some .local || names.lookup n == some .cell)
noncomputable def isTup : Expr -> Bool
 | .Tuple .. => true
 | _ => false
noncomputable def wTup2 (ts : List Expr) (k : Str -> Pos -> Str -> Pos -> Bool) : Bool := w1 ts fun t => wTup t fun xs _ _ => w2 xs fun a b => wName a fun n p => wName b fun n' p' => k n p n' p'
@[elab_as_elim] theorem wTup2_E {C : List Expr -> Prop} (h : wTup2 ts k = true) (cc : ∀ n p n' p' u q, k n p n' p' = true -> C [.Tuple [.Name n p, .Name n' p'] u q]) : C ts := by
 refine w1_E h fun t h => ?_
 refine wTup_E h fun xs u q h => ?_
 refine w2_E h fun a b h => ?_
 refine wName_E h fun n p h => ?_
 refine wName_E h fun n' p' h => ?_
 exact cc _ _ _ _ _ _ h
noncomputable def wName1 (ts : List Expr) (k : Str -> Bool) : Bool := w1 ts fun t => wName t fun n _ => k n
@[elab_as_elim] theorem wName1_E {C : List Expr -> Prop} (h : wName1 ts k = true) (cc : ∀ n p, k n = true -> C [.Name n p]) : C ts := by
 refine w1_E h fun t h => ?_
 refine wName_E h fun n p h => ?_
 exact cc _ _ h
noncomputable def isSlice : Expr -> Bool
 | .Slice .. => true
 | _ => false
mutual
noncomputable def mS (names : List (Str × NameKind)) : CS -> Stmt -> Bool
 | .assign x e, s => wAsg s fun ts v _ => wName1 ts fun n => isStore names x n && mE names e v && !e.isOwn
 | .assignO x e, s => wAsg s fun ts v _ => wName1 ts fun n => isStore names x n && mE names e v && e.fresh && !isComp v
 | .assignD x, s => wAsg s fun ts v _ => wName1 ts fun n => wDic v fun ks vs _ => w0 ks (w0 vs (isStore names x n))
 | .unp x y e, s => wAsg s fun ts v _ => wTup2 ts fun n _ n' _ => isStore names x n && isStore names y n' && x != y && mE names e v && !e.isOwn && !isTup v && !isComp v
 | .swp x y a b, s => wAsg s fun ts v _ => wTup2 ts fun n p n' p' => wTup v fun l _ _ => w2 l fun va vb => (wAtt va (fun _ _ _ => true) && wAtt vb fun _ _ _ => true) && isStore names x n && isStore names y n' && x != y && names.lookup n == some .local && names.lookup n' == some .local && p.line == p'.line &&
   mE names a va && mE names b vb && !a.isOwn && !b.isOwn
 | .multi x y z e, s => wAsg s fun ts v _ => w3 ts fun a b c => wName a fun n _ => wName b fun n' _ => wName c fun n'' _ => isStore names x n && isStore names y n' && isStore names z n'' && mE names e v && !e.isOwn && !isComp v
 | .aug x op e, s => wAug s fun t op' v _ => wName t fun n _ => isStore names x n && op == op' && mE names e v && !e.isOwn
 | .mutS x m as, s => wExp s fun e _ => wCall e fun g args ks pos => w0 ks (wAtt g fun o a apos => wName o fun n _ => isNm x n && a == ofString m && mL names as args && decide (args.length < 20) && apos.endLine == pos.line)
 | .setItem x i e, s => wAsg s fun ts v _ => w1 ts fun t => wSub t fun o j _ => wName o fun n _ => isNm x n && mE names i j && mE names e v && !i.isOwn && !e.isOwn && !isComp v && !isSlice j
 | .setAttr x a e, s => wAsg s fun ts v _ => w1 ts fun t => wAtt t fun o m _ => wName o fun n _ => isNm x n && m == ofString a && mE names e v && !e.isOwn && !isComp v
 | .ifS t a b, s => wIf s fun t' xs ys _ => mE names t t' && !t.isOwn && mB names a xs && mB names b ys
 | .forS x it _ body, s => wFor s fun t iter xs ys _ => w0 ys (wName t fun n _ => isStore names x n && mI names it iter && !it.isOwn && mB names body xs)
 | .whileS t _ body, s => wWhi s fun t' xs ys _ => w0 ys (mE names t t' && !t.isOwn && mB names body xs)
 | .ret e, s => wRet s fun o _ => wSome o fun v => mE names e v && !e.isOwn
 | .brk, s => wBrk s fun _ => true
noncomputable def mB (names : List (Str × NameKind)) : CB -> List Stmt -> Bool
 | .nil, l => w0 l true
 | .cons s r, l => match l with
  | [] => false
  | x :: xs => mS names s x && mB names r xs
 | .freeze _ r, xs => mB names r xs
end
section
variable {prog : Program} {w : World} {hT : Heap} {c : Cx} {A : Around}
noncomputable def SelfAt (env : Env) (h : Heap) (y : String) (v : Value) : Prop := ∃ m, h.Ns env.locals m /\ VarAt env m h y v
noncomputable def Pin (N : String -> Prop) (env : Env) (h h' : Heap) : Prop := ∀ y, N y -> ∀ v, SelfAt env h y v -> SelfAt env h' y v
theorem Pin.but (F : Addr -> Prop) (hl : ¬ F env.locals) (hc : ∀ n c, env.cells.lookup n = some c -> ¬ F c) (hk : ∀ b o, ¬ F b -> h.get? b = some o -> h'.get? b = some o) : Pin N env h h' := fun y _ v ⟨m, hn, hva⟩ => by
 refine ⟨m, hn.at' fun o e => hk _ o hl e, ?_⟩
 rcases hva with a | ⟨a, cc, b, o, d, e'⟩
 ·exact .inl a
 ·exact .inr ⟨a, cc, b, o, hk _ _ (hc _ cc b) d, e'⟩
theorem Pin.all (hk : ∀ b o, h.get? b = some o -> h'.get? b = some o) : Pin N env h h' := Pin.but (fun _ => False) id (fun _ _ _ => id) fun b o _ e => hk b o e
theorem Pin.trans (a : Pin N env h h') (b : Pin N env h' h'') : Pin N env h h'' := fun y hy v q => b y hy v (a y hy v q)
noncomputable def KB (N : String -> Prop) (env : Env) (X₀ X : Addr -> Prop) (σ σ' : Shared) : Prop := ∃ h' tk, σ' = { σ with heap := h', toks := tk } /\ (∀ b o, (¬ X b \/ X₀ b) -> σ.heap.get? b = some o -> h'.get? b = some o) /\ Pin N env σ.heap h'
noncomputable def Grow (X X' : Addr -> Prop) (σ : Shared) : Prop := ∀ a, X' a -> X a \/ σ.heap.get? a = none
section
variable {N : String -> Prop} {env : Env}
theorem KB.heap (k : KB N env X₀ X σ σ') : ∀ b o, (¬ X b \/ X₀ b) -> σ.heap.get? b = some o -> σ'.heap.get? b = some o := by
 apply xEEAAq1L k; intro h t _ _; clear k; rename_i k _
 exact k
theorem KB.pin (k : KB N env X₀ X σ σ') : Pin N env σ.heap σ'.heap := by
 apply xEEAAq1L k; intro h t _ _; clear k; rename_i k
 exact k
theorem KB.mono (k : KB N env X₀ X σ σ') (hN : ∀ y, N' y -> N y) : KB N' env X₀ X σ σ' := by
 apply xEEAAq1L k; intro h t a _; clear k; rename_i k
 exact ⟨h, t, rfl, a, fun y hy => k y (hN y hy)⟩
theorem KB.of (k : Keeps σ σ') : KB N env X₀ X σ σ' := by
 apply xEEAq1L k; intro h t _; clear k; rename_i k
 exact ⟨h, t, rfl, fun b o _ e => k b o e, Pin.all k⟩
theorem KB.then (a : KB N env X₀ X σ σ₁) (g : Grow X X₁ σ) (b : KB N env X₀ X₁ σ₁ σ₂) : KB N env X₀ X σ σ₂ := by
 refine xEEAA a fun h t z1q k p => ?_; (try clear a); obtain rfl := z1q
 refine xEEAA b fun h' t' z1q k' p' => ?_; (try clear b); obtain rfl := z1q
 refine ⟨h', t', rfl, fun b o hb e => k' b o ?_ (k b o hb e), p.trans p'⟩
 rcases hb with hb | hb
 ·refine .inl fun x => ?_
  rcases g b x with x | x
  ·exact hb x
  ·exact clash x e
 ·exact .inr hb
theorem Grow.then (a : KB N env X₀ X σ σ₁) (g : Grow X X₁ σ) (g' : Grow X₁ X₂ σ₁) : Grow X X₂ σ := fun b x => by
 rcases g' b x with x | x
 ·exact g b x
 ·by_cases hx : X b
  ·exact .inl hx
  ·refine .inr ?_
   cases q : σ.heap.get? b with
   | none => rfl
   | some o => exact clash x (a.heap b o (.inl hx) q)
theorem Grow.rfl : Grow X X σ := fun _ x => .inl x
end
theorem St.names (S : St P hT env X₀ X ρ h) (hs : ∀ x e, ρ'.lookup x = some e -> ρ.lookup x = some e) : St P hT env X₀ X ρ' h :=
 { S with vars := let ⟨m, κ, a, b, c, d⟩ := S.vars
   ⟨m, κ, a, fun x e q => b x e (hs x e q), fun x y d d' q q' => c x y d d' (hs _ _ q) (hs _ _ q'), fun x e q => d x e (hs _ _ q)⟩ }
theorem keepR_in : ∀ {keep : List String} {x : String} {e : Ent}, (keepR keep ρ).lookup x = some e -> ρ.lookup x = some e
 | [], _, _, h => by simp [keepR] at h
 | z :: r, x, e, h => by
  unfold keepR at h
  rw [filterMap_cons] at h
  have ih := fun q => keepR_in (ρ := ρ) (keep := r) (x := x) (e := e) q
  cases hz : ρ.lookup z with
  | none => rw [hz] at h; exact ih h
  | some q =>
   rw [hz] at h
   dsimp only [Option.map_some] at h
   rw [lookup_cons] at h
   cases hb : x == z with
   | true => rw [hb] at h; obtain rfl := osi h; refine rwG (beq_iff_eq.mp hb) ?_; exact hz
   | false => rw [hb] at h; exact ih h
theorem St.keepR (S : St P hT env X₀ X ρ h) (keep : List String) : St P hT env X₀ X (keepR keep ρ) h := S.names fun _ _ q => keepR_in q
theorem OwnRd.live (o : OwnRd P h X d v r) : ∃ ob, h.get? r = some ob := by cases o <;> exact ⟨_, by assumption⟩
theorem OwnRd.move (o : OwnRd P h X d v r) (hr : ∀ ob, h.get? r = some ob -> h'.get? r = some ob) (hX : X' r) (hk : ∀ a o, ¬ X a -> h.get? a = some o -> h'.get? a = some o) (hX' : ∀ a o, h.get? a = some o -> X' a -> X a) : OwnRd P h' X' d v r :=
 o.moveC (fun ob _ => hr ob) hX (fun a o x _ => hk a o x) hX'
theorem look_put {x y : String} (h : ((x, e) :: ρ).lookup y = some e') : (y = x /\ e' = e) \/ (y ≠ x /\ ρ.lookup y = some e') := by
 rw [lookup_cons] at h
 cases hb : y == x with
 | true => rw [hb] at h; obtain rfl := osi h; exact .inl ⟨beq_iff_eq.mp hb, rfl⟩
 | false => rw [hb] at h; exact .inr ⟨beq_eq_false_iff_ne.mp hb, h⟩
theorem St.put {env : Env} {e : Ent} {v : Value} {r : Addr} {m' : Str -> Option Value} (S : St P hT env X₀ X ρ h₀)
  (k : ∀ a o, h₀.get? a = some o -> h₁.get? a = some o) (hX' : ∀ a o, h₀.get? a = some o -> X' a -> X a) (hXX : ∀ a, X a -> X' a) (live : ∀ a, X' a -> ∃ o, h₁.get? a = some o)
  (hb : b = env.locals \/ ∃ n, env.cells.lookup n = some b) (hk : ∀ a o, a ≠ b -> h₁.get? a = some o -> h'.get? a = some o) (hbl : ∃ o, h'.get? b = some o)
  (hr : EntRd P h₁ X' e v r) (hown : ∀ d, e = .own d -> h₀.get? r = none /\ ¬ X₀ r)
  (hns : h'.Ns env.locals m') (hcell : ∀ n q, env.cells.lookup n = some q -> ∃ v, h'.IsCell q v) (hx : VarAt env m' h' x v)
  (hold : ∀ y u m, y ≠ x -> h₀.Ns env.locals m -> VarAt env m h₀ y u -> VarAt env m' h' y u) : St P hT env X₀ X' ((x, e) :: ρ) h' := by
 have bX : X b := by
  rcases hb with rfl | ⟨n, q⟩
  ·exact S.loc
  ·exact (S.cells n b q).1
 have bhT : hT.get? b = none := S.off b bX
 have mv : ∀ a o, ¬ X a -> h₀.get? a = some o -> h'.get? a = some o := fun a o hx q => hk a o (fun z => hx (z ▸ bX)) (k a o q)
 have mv1 : ∀ a o, ¬ X' a -> h₁.get? a = some o -> h'.get? a = some o := fun a o hx q => hk a o (fun z => hx (hXX _ (z ▸ bX))) q
 refine xEEAAA S.vars fun m κ hn hv hi ho => ?_
 have rb : ∀ y d, ρ.lookup y = some (.own d) -> κ y ≠ b := fun y d q => by
  refine xAA (ho y d q) fun _ q1 q2 => ?_
  rcases hb with rfl | ⟨n, q3⟩
  ·exact q1
  ·exact q2 n b q3
 refine ⟨fun a o q => ?_, fun a q => ?_, fun a q => ?_, fun a q => hXX _ (S.sub a q), S.fn, S.glob, S.blt, hXX _ S.loc, S.loc0, S.cell0, S.celled, fun n q e => ?_, S.apart, m', fun y => if y = x then r else κ y, hns, ?_, ?_, ?_⟩
 ·exact hk a o (fun z => by rw [z] at q; exact clash bhT q) (k a o (S.base a o q))
 ·cases z : hT.get? a with
  | none => rfl
  | some o => have := S.off a (hX' a o (S.base a o z) q); exact clash this z
 ·by_cases z : a = b
  ·refine rwG z ?_; exact hbl
  ·obtain ⟨o, e⟩ := live a q; exact ⟨o, hk a o z e⟩
 ·exact ⟨hXX _ (S.cells n q e).1, (S.cells n q e).2.1, hcell n q e⟩
 ·intro y e' q
  rcases look_put q with ⟨rfl, rfl⟩ | ⟨hy, q⟩
  ·refine ⟨v, hx, ?_⟩
   dsimp only
   refine rwG (if_pos rfl) ?_
   cases e' with
   | v d => exact Rd.move mv1 (fun _ _ _ x => x) hr
   | own d =>
    have hro := (hown d rfl).1
    refine OwnRd.move hr (fun ob q => hk r ob (fun z => ?_) q) (OwnRd.root hr) mv1 (fun _ _ _ x => x)
    rw [z] at hro
    refine xE (S.live b bX) fun o q' => ?_
    exact clash hro q'
  ·refine xEA (hv y e' q) fun u hva her => ?_
   refine ⟨u, hold y u m hy hn hva, ?_⟩
   dsimp only
   refine rwG (if_neg hy) ?_
   cases e' with
   | v d => exact Rd.move mv hX' her
   | own d => exact OwnRd.move her (fun ob q' => hk _ ob (rb y d q) (k _ _ q')) (hXX _ (OwnRd.root her)) mv hX'
 ·intro y z d d' q q' hkk
  have dist : ∀ y d, y ≠ x -> ρ.lookup y = some (.own d) -> ∀ d', e = .own d' -> κ y ≠ r := fun y d _ q d' he hh => by
   refine xEA (hv y _ q) fun u _ her => ?_
   refine xE (OwnRd.live her) fun ob e' => ?_
   rw [hh] at e'; exact clash ((hown d' he).1) e'
  dsimp only at hkk
  rcases look_put q with ⟨ey, e1⟩ | ⟨hy, qy⟩ <;> rcases look_put q' with ⟨ez, e2⟩ | ⟨hz, qz⟩
  ·exact rwG ey (rwG ez rfl)
  ·rw [if_pos ey, if_neg hz] at hkk
   exact absurd hkk.symm (dist z d' hz qz d e1.symm)
  ·rw [if_neg hy, if_pos ez] at hkk
   exact absurd hkk (dist y d hy qy d' e2.symm)
  ·rw [if_neg hy, if_neg hz] at hkk
   exact hi y z d d' qy qz hkk
 ·intro y d q
  dsimp only
  rcases look_put q with ⟨rfl, e1⟩ | ⟨hy, q⟩
  ·refine rwG (if_pos rfl) ?_
   refine xA (hown d e1.symm) fun h1 h2 => ?_
   refine ⟨h2, fun z => ?_, fun n q' e z => ?_⟩
   ·refine xE (S.live _ S.loc) fun o q' => ?_
    rw [z] at h1; exact clash h1 q'
   ·refine xE (S.live _ (S.cells n q' e).1) fun o q'' => ?_
    rw [z] at h1; exact clash h1 q''
  ·refine rwG (if_neg hy) ?_
   exact ho y d q
theorem store_ok (h : isStore names x n = true) : isNm x n = true /\ n = ofString x /\ (names.lookup n = some .local \/ names.lookup n = some .cell) := by
 unfold isStore at h
 refine xA (and3 h) fun h1 h2 => ?_
 refine ⟨h1, (nm_ok h1).1, ?_⟩
 simpa using h2
theorem store_ent (hp : ∀ y, N y -> y ≠ x) (hs : isStore names x n = true) (hn : env.scope.names = names) (S : St w.params hT env X₀ X ρ σ₀.heap)
  (k : Keeps σ₀ σ₁) (hX' : ∀ a o, σ₀.heap.get? a = some o -> X' a -> X a) (hXX : ∀ a, X a -> X' a) (live : ∀ a, X' a -> ∃ o, σ₁.heap.get? a = some o)
  (hr : EntRd w.params σ₁.heap X' e v r) (hown : ∀ d, e = .own d -> σ₀.heap.get? r = none /\ ¬ X₀ r)
  (h : ∀ σ', KB N env X₀ X σ₀ σ' -> St w.params hT env X₀ X' ((x, e) :: ρ) σ'.heap -> Q () σ') : wpAny (model prog w) A (storeName env n v) Q FF σ₁ := by
 refine xAA (store_ok hs) fun _ z1q hkind => ?_; obtain rfl := z1q
 refine xEEAAA S.vars fun m κ hns hv hi ho => ?_
 have kind : env.kindOf (ofString x) = some .local \/ env.kindOf (ofString x) = some .cell := by unfold Env.kindOf; refine rwG hn ?_; exact hkind
 have nsu : ∀ m', σ₀.heap.Ns env.locals m' -> m' = m := fun m' h' => by
  refine xEEEAAA hns fun o es ep e1 e2 _ e3 => ?_; (try clear hns)
  refine xEEEAAA h' fun o' es' ep' f1 f2 _ f3 => ?_; (try clear h')
  rw [e1] at f1; cases f1
  rw [e2] at f2; cases f2
  funext z; rw [<- e3, <- f3]
 refine xEEA k fun H tk z1q hk => ?_; (try clear k); obtain rfl := z1q
 rcases kind with kd | kd
 ·refine wpAny_storeName_local kd (hns.keeps hk) (fun h' hn' hs' => ?_) (plain_kind S.fn)
  have hold : ∀ (y : String) (u : Value) (m₀ : Str -> Option Value), y ≠ x -> σ₀.heap.Ns env.locals m₀ -> VarAt env m₀ σ₀.heap y u -> VarAt env (fun z => if z = ofString x then some v else m z) h' y u := fun y u m₀ hy hm₀ hva => by
   obtain rfl := nsu _ hm₀
   rcases hva with ⟨a, b⟩ | ⟨a, q, b, d⟩
   ·exact .inl ⟨a, (if_neg (fun z => hy (ofString_inj z))).trans b⟩
   ·exact .inr ⟨a, q, b, (d.keeps hk).sameBut hs' (S.cells _ q b).2.1⟩
  refine h _ ⟨h', _, rfl, fun b o hb q => hs'.extBut b o (fun z => ?_) (hk b o q), fun y hy u ⟨m₀, hm₀, hva⟩ => ⟨_, hn', hold y u m₀ (hp y hy) hm₀ hva⟩⟩ (S.put hk hX' hXX live (.inl rfl) (fun a o hab q => hs'.extBut a o hab q) ?_ hr hown hn' (fun n q e => ?_) (.inl ⟨kd, by simp⟩) hold)
  ·subst z
   rcases hb with hb | hb
   ·exact hb S.loc
   ·exact S.loc0 hb
  ·obtain ⟨o, _, _, e, _⟩ := hn'; exact ⟨o, e⟩
  ·refine xAAE (S.cells n q e) fun c1 c2 u c3 => ?_
   exact ⟨u, (c3.keeps hk).sameBut hs' c2⟩
 ·refine xE (S.celled _ (.inl kd)) fun q hq => ?_
  refine xAAE (S.cells _ q hq) fun c1 c2 v₀ c3 => ?_
  refine wpAny_storeName_cell S.fn kd hq (c3.keeps hk) fun h' hc' hs' => ?_
  have hL : env.locals ≠ q := Ne.symm c2
  have hold : ∀ (y : String) (u : Value) (m₀ : Str -> Option Value), y ≠ x -> σ₀.heap.Ns env.locals m₀ -> VarAt env m₀ σ₀.heap y u -> VarAt env m h' y u := fun y u m₀ hy hm₀ hva => by
   obtain rfl := nsu _ hm₀
   rcases hva with ⟨a, b⟩ | ⟨a, q', b, d⟩
   ·exact .inl ⟨a, b⟩
   ·refine .inr ⟨a, q', b, (d.keeps hk).sameBut hs' fun z => hy ?_⟩
    subst z
    exact ofString_inj (S.apart _ _ _ b hq)
  refine h _ ⟨h', _, rfl, fun b o hb z => hs'.extBut b o (fun y => ?_) (hk b o z), fun y hy u ⟨m₀, hm₀, hva⟩ => ⟨_, (hns.keeps hk).sameBut hs' hL, hold y u m₀ (hp y hy) hm₀ hva⟩⟩ (S.put hk hX' hXX live (.inr ⟨_, hq⟩) (fun a o hab z => hs'.extBut a o hab z) ?_ hr hown ((hns.keeps hk).sameBut hs' hL) (fun n q' e => ?_) (.inr ⟨.inl kd, q, hq, hc'⟩) hold)
  ·subst y
   rcases hb with hb | hb
   ·exact hb c1
   ·exact S.cell0 _ _ hq hb
  ·obtain ⟨o, e, _⟩ := hc'; exact ⟨o, e⟩
  ·by_cases z : q' = q
   ·refine rwG z ?_; exact ⟨_, hc'⟩
   ·refine xAAE (S.cells n q' e) fun _ _ u c4 => ?_
    exact ⟨u, (c4.keeps hk).sameBut hs' z⟩
theorem store_v (hp : ∀ y, N y -> y ≠ x) (hs : isStore names x n = true) (hn : env.scope.names = names) (S : St w.params hT env X₀ X ρ σ₀.heap)
  (k : Keeps σ₀ σ₁) (hr : Rd w.params σ₁.heap X d v) (h : ∀ σ', KB N env X₀ X σ₀ σ' -> St w.params hT env X₀ X ((x, .v d) :: ρ) σ'.heap -> Q () σ') : wpAny (model prog w) A (storeName env n v) Q FF σ₁ :=
 store_ent (e := .v d) (r := 0) hp hs hn S k (fun _ _ _ x => x) (fun _ x => x) (fun a x => let ⟨o, e⟩ := S.live a x; ⟨o, kh k _ _ e⟩) hr (fun d e => by injection e) h
theorem St.addX {X₀ X F : Addr -> Prop} (S : St P hT env X₀ X ρ h₀) (k : ∀ a o, h₀.get? a = some o -> h₁.get? a = some o) (hF : ∀ a, F a -> h₀.get? a = none) (hl : ∀ a, F a -> ∃ o, h₁.get? a = some o) :
  St P hT env (fun a => X₀ a \/ F a) (fun a => X a \/ F a) ρ h₁ := by
 have nf : ∀ {a}, (∃ o, h₀.get? a = some o) -> ¬ F a := fun ⟨o, e⟩ f => by exact clash (hF _ f) e
 have hX' : ∀ a o, h₀.get? a = some o -> (X a \/ F a) -> X a := fun a o e x => x.resolve_right (nf ⟨o, e⟩)
 refine xEEAAA S.vars fun m κ hn hv hi ho => ?_
 refine ⟨fun a o e => k _ _ (S.base a o e), fun a x => ?_, fun a x => ?_, fun a x => x.imp (S.sub a) id, S.fn, S.glob, S.blt, .inl S.loc, fun x => x.elim S.loc0 (nf (S.live _ S.loc)), fun n q e x => x.elim (S.cell0 n q e) (nf (S.live _ (S.cells n q e).1)), S.celled,
  fun n q e => ⟨.inl (S.cells n q e).1, (S.cells n q e).2.1, let ⟨v, x⟩ := (S.cells n q e).2.2; ⟨v, x.keeps k⟩⟩, S.apart, m, κ, hn.keeps k, fun x e q => ?_, hi, fun x d q => ?_⟩
 ·rcases x with x | x
  ·exact S.off a x
  ·cases z : hT.get? a with
   | none => rfl
   | some o => have := hF a x; exact clash this (S.base a o z)
 ·rcases x with x | x
  ·obtain ⟨o, e⟩ := S.live a x; exact ⟨o, k _ _ e⟩
  ·exact hl a x
 ·refine xEA (hv x e q) fun v hva hr => ?_
  refine ⟨v, hva.keeps k, ?_⟩
  cases e with
  | v d => exact Rd.move (fun a o _ e => k a o e) hX' hr
  | own d => exact OwnRd.move hr (fun _ e => k _ _ e) (.inl (OwnRd.root hr)) (fun a o _ e => k a o e) hX'
 ·refine xA (ho x d q) fun a1 a2 => ?_
  refine ⟨fun x' => x'.elim a1 (nf ?_), a2⟩
  refine xEA (hv x _ q) fun v _ hr => ?_
  exact OwnRd.live hr
theorem St.dropX {X₀ X F : Addr -> Prop} (S : St P hT env (fun a => X₀ a \/ F a) X ρ h) (hF : ∀ a, X₀ a -> ¬ F a) (k : ∀ a o, ¬ F a -> h.get? a = some o -> h'.get? a = some o) :
  St P hT env X₀ (fun a => X a /\ ¬ F a) ρ h' := by
 have fX : ∀ a, F a -> X a := fun a f => S.sub a (.inr f)
 refine xEEAAA S.vars fun m κ hn hv hi ho => ?_
 refine ⟨fun a o e => k _ _ (fun f => ?_) (S.base a o e), fun a x => S.off a x.1, fun a x => ?_, fun a x => ⟨S.sub a (.inl x), hF a x⟩, S.fn, S.glob, S.blt, ⟨S.loc, fun f => S.loc0 (.inr f)⟩, fun x => S.loc0 (.inl x), fun n q e x => S.cell0 n q e (.inl x), S.celled,
  fun n q e => ⟨⟨(S.cells n q e).1, fun f => S.cell0 n q e (.inr f)⟩, (S.cells n q e).2.1, let ⟨v, o, x, y⟩ := (S.cells n q e).2.2; ⟨v, o, k _ _ (fun f => S.cell0 n q e (.inr f)) x, y⟩⟩, S.apart, m, κ, hn.at' fun o e => k _ _ (fun f => S.loc0 (.inr f)) e, fun x e q => ?_, hi, fun x d q => ?_⟩
 ·exact clash (S.off a (fX a f)) e
 ·obtain ⟨o, e⟩ := S.live a x.1; exact ⟨o, k _ _ x.2 e⟩
 ·refine xEA (hv x e q) fun v hva hr => ?_
  refine ⟨v, ?_, ?_⟩
  ·rcases hva with a | ⟨a, cc, b, o, d, e'⟩
   ·exact .inl a
   ·exact .inr ⟨a, cc, b, o, k _ _ (fun f => S.cell0 _ cc b (.inr f)) d, e'⟩
  ·cases e with
   | v d => exact Rd.move (fun a o hx e => k a o (fun f => hx (fX a f)) e) (fun _ _ _ z => z.1) hr
   | own d =>
    have hnf : ¬ F (κ x) := fun f => (ho x d q).1 (.inr f)
    exact OwnRd.move hr (fun _ e => k _ _ hnf e) ⟨OwnRd.root hr, hnf⟩ (fun a o hx e => k a o (fun f => hx (fX a f)) e) (fun _ _ _ z => z.1)
 ·exact ⟨fun x' => (ho x d q).1 (.inl x'), (ho x d q).2⟩
theorem St.turnX {X₀ X F : Addr -> Prop} (S : St P hT env (fun a => X₀ a \/ F a) X ρ h) (hl : ∀ a, F a -> ∃ o, h'.get? a = some o) (k : ∀ a o, ¬ F a -> h.get? a = some o -> h'.get? a = some o) :
  St P hT env (fun a => X₀ a \/ F a) X ρ h' := by
 have fX : ∀ a, F a -> X a := fun a f => S.sub a (.inr f)
 refine xEEAAA S.vars fun m κ hn hv hi ho => ?_
 refine ⟨fun a o e => k _ _ (fun f => ?_) (S.base a o e), S.off, fun a x => ?_, S.sub, S.fn, S.glob, S.blt, S.loc, S.loc0, S.cell0, S.celled,
  fun n q e => ⟨(S.cells n q e).1, (S.cells n q e).2.1, let ⟨v, o, x, y⟩ := (S.cells n q e).2.2; ⟨v, o, k _ _ (fun f => S.cell0 n q e (.inr f)) x, y⟩⟩, S.apart, m, κ, hn.at' fun o e => k _ _ (fun f => S.loc0 (.inr f)) e, fun x e q => ?_, hi, ho⟩
 ·exact clash (S.off a (fX a f)) e
 ·by_cases f : F a
  ·exact hl a f
  ·obtain ⟨o, e⟩ := S.live a x; exact ⟨o, k _ _ f e⟩
 ·refine xEA (hv x e q) fun v hva hr => ?_
  refine ⟨v, ?_, ?_⟩
  ·rcases hva with a | ⟨a, cc, b, o, d, e'⟩
   ·exact .inl a
   ·exact .inr ⟨a, cc, b, o, k _ _ (fun f => S.cell0 _ cc b (.inr f)) d, e'⟩
  ·cases e with
   | v d => exact Rd.move (fun a o hx e => k a o (fun f => hx (fX a f)) e) (fun _ _ _ z => z) hr
   | own d =>
    have hnf : ¬ F (κ x) := fun f => (ho x d q).1 (.inr f)
    exact OwnRd.move hr (fun _ e => k _ _ hnf e) (OwnRd.root hr) (fun a o hx e => k a o (fun f => hx (fX a f)) e) (fun _ _ _ z => z)
theorem KB.weak (k : KB N env X₁ X σ σ') (h : ∀ a, X₀ a -> X₁ a) : KB N env X₀ X σ σ' := by
 apply xEEAAq1L k; intro H t _ p; clear k; rename_i k
 exact ⟨H, t, rfl, fun b o hb e => k b o (hb.imp id (h b)) e, p⟩
noncomputable def FlRd (P : Params) (h : Heap) (X : Addr -> Prop) : Fl -> Flow -> Prop
 | .next, .next => True
 | .brk, .brk => True
 | .ret d, .ret v => Rd P h X d v
 | _, _ => False
noncomputable def SP (w : World) (hT : Heap) (N : String -> Prop) (env : Env) (X₀ X : Addr -> Prop) (σ : Shared) (K : Fl -> Ro -> Prop) (fl : Flow) (σ' : Shared) : Prop :=
 ∃ fl' ρ' X', K fl' ρ' /\ St w.params hT env X₀ X' ρ' σ'.heap /\ FlRd w.params σ'.heap X' fl' fl /\ KB N env X₀ X σ σ' /\ Grow X X' σ
noncomputable def ExS (prog : Program) (w : World) (hT : Heap) (c : Cx) (A : Around) (s : CS) : Prop := ∀ names st env ρ X₀ X σ K, mS names s st = true -> env.scope.names = names -> St w.params hT env X₀ X ρ σ.heap -> exW c s ρ K ->
 wpAny (model prog w) A (exec st env) (SP w hT (fun y => y ∉ s.sto) env X₀ X σ K) FF σ
noncomputable def BlS (prog : Program) (w : World) (hT : Heap) (c : Cx) (A : Around) (b : CB) : Prop := ∀ names sts env ρ X₀ X σ K, mB names b sts = true -> env.scope.names = names -> St w.params hT env X₀ X ρ σ.heap -> exsW c b ρ K ->
 wpAny (model prog w) A (execs sts env) (SP w hT (fun y => y ∉ b.sto) env X₀ X σ K) FF σ
theorem SP.lift {K : Fl -> Ro -> Prop} (k : KB N env X₀ X σ σ₁) (g : Grow X X₁ σ) (h : SP w hT N' env X₀ X₁ σ₁ K fl σ') (hN : ∀ y, N y -> N' y) : SP w hT N env X₀ X σ K fl σ' := by
 refine xEEEAAAA h fun fl' ρ' X' a b d e f => ?_; (try clear h)
 exact ⟨fl', ρ', X', a, b, d, k.then g (e.mono hN), Grow.then k g f⟩
theorem inv_assign {st : Stmt} (hm : mS names (.assign x e) st = true) : ∃ n p v pos, st = .Assign [.Name n p] v pos /\ isStore names x n = true /\ mE names e v = true /\ e.isOwn = false := by
 refine wAsg_E hm fun ts v pos hm => ?_
 refine wName1_E hm fun n p hm => ?_
 refine xA (and3 hm) fun hm h3 => ?_
 exact ⟨_, _, _, _, rfl, (and3 hm).1, (and3 hm).2, not_t h3⟩
theorem no_swap (h : isComp v = false) : swapsWith v t l env = pure false := by
 cases v <;> first | rfl | injection h
theorem comp_of (hm : mE names e v = true) (hc : isComp v = true) : e.isComp = true := by
 cases v <;> first | (cases hc; done) | skip
 all_goals (cases e <;> first | rfl | exact (Bool.false_ne_true hm).elim)
theorem assign_comp {env : Env} {ρ X₀ X} {σ : Shared} {K : D -> Prop} {Q : Flow -> Shared -> Prop} {N : String -> Prop} (hp : ∀ y, N y -> y ≠ x) (he : CrS prog w hT c A e) (hs : isStore names x n = true) (hm : mE names e v = true) (hn : env.scope.names = names)
  (S : St w.params hT env X₀ X ρ σ.heap) (hw : evW c ρ e K)
  (hsw : swapsWith v (some (.Name n p)) pos.line env = pure true)
  (h : ∀ σ' d, K d -> KB N env X₀ X σ σ' -> St w.params hT env X₀ X ((x, .v d) :: ρ) σ'.heap -> Q .next σ') : wpAny (model prog w) A (exec (.Assign [.Name n p] v pos) env) Q FF σ := by
 refine xEEEEAA (he names v env ρ X₀ X σ K hm hn S hw) fun elt g sc cpos z1q hg hrun => ?_; obtain rfl := z1q
 have e1 : firstAsync [g] = false := by obtain ⟨_, _, _, a⟩ := g; have : a = 0 := hg; subst this; rfl
 refine rwG (exec_Assign_Name_used _ _ _ _ hsw) ?_
 refine wpAny_bind (wpAny_standAt (wpAny_bind ?_))
 show wpAny _ A (do let _ <- comprehension (.ListComp elt [g] sc cpos) sc env (firstIterPos [g] cpos) (newList []) (firstAsync [g]) (firstIter [g] env) (some (assign (.Name n p) env))) _ _ σ
 refine rwG e1 ?_
 refine wpAny_bind (wpAny_mono (hrun (some (assign (.Name n p) env)) (fun _ s' => Q .next s') ?_) (fun _ s' hq => wpAny_pure (wpAny_pure hq)) fun _ _ f => f)
 intro sA s₂ wr D C h' tk m' ys nn rs kA kB hwr hD hC hDC hns hgD hKr hR hk
 show wpAny _ A (assign (.Name n p) env (.ref D)) _ _ _
 refine wpAny_assign_Name ?_
 have old : ∀ b o, σ.heap.get? b = some o -> h'.get? b = some o := fun b o e => by
  have e' := kh kA _ _ e
  exact hk b o (fun q => by exact clash (hwr b q) e') (kh kB _ _ e')
 have fresh : ∀ a, s₂.heap.get? a = none -> σ.heap.get? a = none := fun a e => by
  cases q : σ.heap.get? a with
  | none => rfl
  | some o => exact clash e (kh (kt kA kB) _ _ q)
 have notX : ∀ a, s₂.heap.get? a = none -> ¬ X a := fun a e x => by
  refine xE (S.live a x) fun o q => ?_
  exact clash (fresh a e) q
 have kS : Keeps σ { s₂ with heap := h', toks := tk } := keeps_of (kt kA kB) old
 have S' := S.addX (F := fun a => a = C) old (fun a q => q ▸ fresh C hC) (fun a q => by subst q; obtain ⟨o, _, _, e, _⟩ := hns; exact ⟨o, e⟩)
 have hr : Rd w.params h' (fun a => X a \/ a = C) (.list rs) (.ref D) := .list (fun q => q.elim (notX D hD) hDC) hgD (hR.less fun a q => q.elim .inl fun q => .inr (.inl q))
 refine store_v (X₀ := fun a => X₀ a \/ a = C) (X := fun a => X a \/ a = C) (σ₀ := { s₂ with heap := h', toks := tk }) (N := N) hp hs hn S' (kr _) hr fun σ' kb Sd => ⟨m', hns.at' fun o e => kb.heap C o (.inr (.inr rfl)) e, fun h'' hs'' => ?_⟩
 have eX : (fun a => (X a \/ a = C) /\ ¬ a = C) = X := by
  funext a
  refine propext ⟨fun q => q.1.resolve_right q.2, fun q => ⟨.inl q, fun z => ?_⟩⟩
  subst z; exact notX _ hC q
 have Sf := Sd.dropX (X₀ := X₀) (F := fun a => a = C) (h' := h'') (fun a q z => by subst z; exact notX _ hC (S.sub _ q)) (fun a o hne e => hs''.extBut a o hne e)
 rw [eX] at Sf
 refine h _ (.list rs) hKr ?_ Sf
 refine xEEAA kb fun H t z1q hkb hpin => ?_; (try clear kb); obtain rfl := z1q
 refine xEEA (kt kA kB) fun H2 t2 e2 _ => ?_
 subst e2
 refine ⟨h'', _, rfl, fun b o hb e => hs''.extBut b o (fun z => ?_) (hkb b o ?_ (old b o e)), ((Pin.all old).trans hpin).trans (Pin.but (fun a => a = C) (fun z => notX _ hC (z ▸ S.loc)) (fun n q e z => notX _ hC (z ▸ (S.cells n q e).1)) fun b o hb e => hs''.extBut b o hb e)⟩
 ·subst z; exact clash (fresh _ hC) e
 ·rcases hb with hb | hb
  ·refine .inl fun q => q.elim hb fun z => ?_
   subst z; exact clash (fresh _ hC) e
  ·exact .inr (.inl hb)
theorem ex_assign (he : EvS prog w hT c A e) (hc : e.isComp = true -> CrS prog w hT c A e) : ExS prog w hT c A (.assign x e) := by
 intro names st env ρ X₀ X σ K hm hn S hw
 apply xEEEEAAAq1L (inv_assign hm); intro n p v pos h1 h2 h3
 have plain : swapsWith v (some (.Name n p)) pos.line env = pure false -> wpAny (model prog w) A (exec (.Assign [.Name n p] v pos) env) (SP w hT (fun y => y ∉ (CS.assign x e).sto) env X₀ X σ K) FF σ := fun hsw =>
  wpAny_Assign_Name (he.use h2 hn S hw fun u σ₁ d k S₁ hK hr _ => store_v (fun y hy q => hy (q ▸ mem_cons_self)) h1 hn S k (hr.rd h3) fun σ' kb S' => ⟨.next, _, X, hK, S', trivial, kb, Grow.rfl⟩) hsw
 cases hcv : isComp v with
 | false => exact plain (no_swap hcv)
 | true =>
  have : ∃ b, swapsWith v (some (.Name n p)) pos.line env = pure b := by
   cases v <;> first | exact ⟨_, rfl⟩ | injection hcv
  refine xE this fun b hb => ?_; (try clear this)
  cases b with
  | false => exact plain hb
  | true => exact assign_comp (fun y hy q => hy (q ▸ mem_cons_self)) (hc (comp_of h2 hcv)) h1 h2 hn S hw hb fun σ' d hK kb S' => ⟨.next, _, X, hK, S', trivial, kb, Grow.rfl⟩
theorem ex_ret (he : EvS prog w hT c A e) : ExS prog w hT c A (.ret e) := by
 intro names st env ρ X₀ X σ K hm hn S hw
 refine wRet_E hm fun o pos hm => ?_
 refine wSome_E hm fun v hm => ?_
 exact wpAny_Return_some (he.use (and3 hm).1 hn S hw fun u σ₁ d k S₁ hK hr _ => ⟨.ret d, ρ, X, hK, S₁, hr.rd (not_t (and3 hm).2), KB.of k, Grow.rfl⟩)
theorem ex_brk : ExS prog w hT c A .brk := by
 intro names st env ρ X₀ X σ K hm hn S hw
 refine wBrk_E hm fun p _ => ?_
 exact wpAny_Break ⟨.brk, ρ, X, hw, S, trivial, KB.of (kr σ), Grow.rfl⟩
theorem ex_if {t : CE} {a b : CB} (ht : IsS prog w hT c A t) (ha : BlS prog w hT c A a) (hb : BlS prog w hT c A b) : ExS prog w hT c A (.ifS t a b) := by
 intro names st env ρ X₀ X σ K hm hn S hw
 refine wIf_E hm fun t' xs ys p hm => ?_
 refine an4 hm fun h1 h2 h3 h4 => ?_
 refine wpAny_If (ht.use h1 (not_t h2) hn S hw fun q σ₁ k S₁ hK => ?_)
 cases q with
 | true => exact wpAny_mono (ha names _ env ρ X₀ X σ₁ K h3 hn S₁ (hK.1 rfl)) (fun fl σ' h => SP.lift (KB.of k) Grow.rfl h (fun y hy q => hy (List.mem_append_left _ q))) (fun _ _ f => f)
 | false => exact wpAny_mono (hb names _ env ρ X₀ X σ₁ K h4 hn S₁ (hK.2 rfl)) (fun fl σ' h => SP.lift (KB.of k) Grow.rfl h (fun y hy q => hy (List.mem_append_right _ q))) (fun _ _ f => f)
theorem ex_aug (C : CxOK prog w hT c A) (he : EvS prog w hT c A e) : ExS prog w hT c A (.aug x op e) := by
 intro names st env ρ X₀ X σ K hm hn S hw
 refine wAug_E hm fun tgt op' v pos hm => ?_
 refine xEEA (wName_inv hm) fun n p z1q hm => ?_; obtain rfl := z1q
 refine an4 hm fun h1 h2 h3 h4 => ?_
 have h4 := not_t h4
 obtain rfl := eq_of_beq h2
 dsimp only [exW] at hw
 cases hl : ρ.lookup x with
 | none => rw [hl] at hw; exact hw.elim
 | some en =>
  rw [hl] at hw
  cases en with
  | own d => exact hw.elim
  | v d =>
   refine xEEAAA S.vars fun m κ hns hv _ _ => ?_
   refine xEA (hv x _ hl) fun u hva hr => ?_
   have hr : Rd w.params σ.heap X d u := hr
   refine xAA (store_ok h1) fun hx z1q _ => ?_; obtain rfl := z1q
   have load : ∀ Q : Value -> Shared -> Prop, Q u σ -> wpAny (model prog w) A (loadName env (ofString x)) Q FF σ := fun Q hQ => by
    rcases hva with ⟨hk, hmx⟩ | ⟨hk | hk, cc, hcc, hcell⟩
    ·exact wpAny_loadName_local S.fn hk hns hmx hQ
    ·exact wpAny_loadName_cell S.fn hk hcc hcell hQ
    ·exact wpAny_loadName_free S.fn hk hcc hcell hQ (nm_ok hx).2.2
   refine wpAny_AugAssign_Name (load _ (he.use h3 hn S hw fun u₂ σ₂ d₂ k₂ S₂ hK₂ hr₂ _ => ?_))
   refine wpAny_mono (C.aug op d d₂ _ X σ₂ u u₂ S₂.ok hK₂ (hr.keeps (kh k₂)) (hr₂.rd h4)) (fun r σ₃ ⟨k₃, d₃, hK₃, hr₃⟩ => ?_) (fun _ _ f => f)
   exact store_v (fun y hy q => hy (q ▸ mem_cons_self)) h1 hn S (kt k₂ k₃) hr₃ fun σ' kb S' => ⟨.next, _, X, hK₃, S', trivial, kb, Grow.rfl⟩
theorem bl_nil : BlS prog w hT c A .nil := by
 intro names sts env ρ X₀ X σ K hm hn S hw
 cases sts with
 | cons _ _ => exact (Bool.false_ne_true hm).elim
 | nil => exact wpAny_execs_nil ⟨.next, ρ, X, hw, S, trivial, KB.of (kr σ), Grow.rfl⟩
theorem bl_cons {s : CS} {r : CB} (hs : ExS prog w hT c A s) (hr : BlS prog w hT c A r) : BlS prog w hT c A (.cons s r) := by
 intro names sts env ρ X₀ X σ K hm hn S hw
 cases sts with
 | nil => exact (Bool.false_ne_true hm).elim
 | cons st sts =>
  refine xA (and3 hm) fun h1 h2 => ?_
  refine wpAny_execs_cons (wpAny_mono (hs names st env ρ X₀ X σ _ h1 hn S hw) (fun fl σ₁ h => ?_) (fun _ _ f => f))
  refine xEEEAAAA h fun fl' ρ' X' hK S' hf kb g => ?_; (try clear h)
  cases fl' with
  | next =>
   cases fl <;> first | exact hf.elim | skip
   exact wpAny_mono (hr names sts env ρ' X₀ X' σ₁ K h2 hn S' hK) (fun fl σ' h => SP.lift (kb.mono fun y hy q => hy (List.mem_append_left _ q)) g h (fun y hy q => hy (List.mem_append_right _ q))) (fun _ _ f => f)
  | brk =>
   cases fl <;> first | exact hf.elim | skip
   exact ⟨.brk, ρ', X', hK, S', hf, kb.mono fun y hy q => hy (List.mem_append_left _ q), g⟩
  | ret d =>
   cases fl <;> first | exact hf.elim | skip
   exact ⟨.ret d, ρ', X', hK, S', hf, kb.mono fun y hy q => hy (List.mem_append_left _ q), g⟩
theorem St.freeze (S : St P hT env X₀ X ρ h) (hl : ρ.lookup x = some (.own d)) : ∃ X', St P hT env X₀ X' ((x, .v d) :: ρ) h /\ ∀ a, X' a -> X a := by
 refine xEEAAA S.vars fun m κ hn hv hi ho => ?_
 refine xAA (ho x d hl) fun k1 k2 k3 => ?_
 refine ⟨fun a => X a /\ a ≠ κ x, ⟨S.base, fun a q => S.off a q.1, fun a q => S.live a q.1, fun a q => ⟨S.sub a q, fun z => k1 (z ▸ q)⟩, S.fn, S.glob, S.blt, ⟨S.loc, Ne.symm k2⟩, S.loc0, S.cell0, S.celled,
  fun n q e => ⟨⟨(S.cells n q e).1, Ne.symm (k3 n q e)⟩, (S.cells n q e).2⟩, S.apart, m, κ, hn, ?_, ?_, ?_⟩, fun a q => q.1⟩
 ·intro y e q
  rcases look_put q with ⟨rfl, rfl⟩ | ⟨hy, q⟩
  ·refine xEA (hv y _ hl) fun v hva hr => ?_
   refine ⟨v, hva, ?_⟩
   show Rd _ _ _ _ _
   cases hr with
   | list a b e => exact .list (fun z => z.2 rfl) b (e.less fun _ z => z.1)
   | dict y a b e f => exact .dict y (fun z => z.2 rfl) b e (f.less fun _ z => z.1)
   | inst a b e f g i => exact .inst (fun z => a z.1) (fun z => z.2 rfl) e f g (i.less fun _ z => z.1)
  ·refine xEA (hv y _ q) fun v hva hr => ?_
   refine ⟨v, hva, ?_⟩
   cases e with
   | v d' => exact Rd.less hr fun _ z => z.1
   | own d' =>
    have hne : κ y ≠ κ x := fun z => hy (hi y x d' d q hl z)
    exact OwnRd.move hr (fun _ z => z) ⟨OwnRd.root hr, hne⟩ (fun _ _ _ z => z) (fun _ _ _ z => z.1)
 ·intro y z d1 d2 q q' e
  rcases look_put q with ⟨ey, e1⟩ | ⟨hy, qy⟩ <;> rcases look_put q' with ⟨ez, e2⟩ | ⟨hz, qz⟩
  ·injection e1
  ·injection e1
  ·injection e2
  ·exact hi y z d1 d2 qy qz e
 ·intro y d1 q
  rcases look_put q with ⟨ey, e1⟩ | ⟨hy, qy⟩
  ·injection e1
  ·exact ho y d1 qy
theorem bl_freeze {x : String} {r : CB} (hr : BlS prog w hT c A r) : BlS prog w hT c A (.freeze x r) := by
 intro names sts env ρ X₀ X σ K hm hn S hw
 dsimp only [exsW] at hw
 cases hl : ρ.lookup x with
 | none => rw [hl] at hw; exact hw.elim
 | some en =>
  rw [hl] at hw
  cases en with
  | v d => exact hw.elim
  | own d =>
   refine xEA (S.freeze hl) fun X' S' hX => ?_
   exact wpAny_mono (hr names sts env _ X₀ X' σ K hm hn S' hw) (fun fl σ' h => SP.lift (KB.of (kr σ)) (fun a x => .inl (hX a x)) h (fun y hy q => hy q)) (fun _ _ f => f)
theorem inv_for {st : Stmt} (hm : mS names (.forS x it keep body) st = true) : ∃ n p iter xs pos, st = .For (.Name n p) iter xs [] pos /\ isStore names x n = true /\ mI names it iter = true /\ it.isOwn = false /\ mB names body xs = true := by
 refine wFor_E hm fun tg iter xs els pos hm => ?_
 refine w0_E hm fun hm => ?_
 refine wName_E hm fun n p hm => ?_
 refine an4 hm fun h1 h2 h3 h4 => ?_
 exact ⟨_, _, _, _, _, rfl, h1, h2, not_t h3, h4⟩
theorem ex_for (hi : ItS prog w hT c A it) (hb : BlS prog w hT c A body) : ExS prog w hT c A (.forS x it keep body) := by
 intro names st env ρ X₀ X σ K hm hn S hw
 let N : String -> Prop := fun y => y ∉ (CS.forS x it keep body).sto
 let OUT : Flow -> Shared -> Prop := SP w hT N env X₀ X σ K
 let bd : D -> Ro -> (Fl -> Ro -> Prop) -> Prop := fun d ρ' => exsW c body ((x, .v d) :: ρ')
 refine xEEEEEAAAA (inv_for hm) fun n p iter xs pos z1q h1 h2 h3 h4 => ?_; obtain rfl := z1q
 show wpAny (model prog w) A (exec (.For (.Name n p) iter xs [] pos) env) OUT FF σ
 refine xA (hi names iter env ρ X₀ X σ _ h2 hn S hw) fun hs hev => ?_
 refine wpAny_For (wpAny_mono hev (fun xv s₁ q₁ => wpAny_mono q₁ (fun itv s₂ q₂ => ?_) fun _ _ f => f) fun _ _ f => f) hs
 refine xAEEAAA q₂ fun k₂ ds sA hK kA kB q₃ => ?_
 clear q₂
 refine xE5A7 q₃ fun I fp wr P T e W h0 hfp hwr hl ho hr => ?_
 clear q₃
 subst e
 have ho := ho h3
 let F : Addr -> Prop := fun a => a ∈ wr
 let XF : Addr -> Prop := fun a => X a \/ F a
 let ZF : Addr -> Prop := fun a => X₀ a \/ F a
 have SA := S.to kA
 have nF : ∀ {a : Addr} {o}, sA.heap.get? a = some o -> ¬ F a := fun e f => by exact clash (hwr _ f) e
 have X0F : ∀ a, X₀ a -> ¬ F a := fun a x => by obtain ⟨o, e⟩ := SA.live a (SA.sub a x); exact nF e
 have S₂ := (SA.addX (F := F) (kh kB) hwr fun a f => hl 0 _ h0 a (W.sub a f)).keepR keep
 have out : ∀ (fl' : Fl) (fl : Flow) (ρ' : Ro) (X' : Addr -> Prop) (σ' : Shared) (H : Heap) (tk : Nat), K fl' ρ' -> St w.params hT env ZF X' ρ' σ'.heap -> KB N env X₀ XF s₂ σ' -> Grow XF X' s₂ ->
   (∀ a o, ¬ F a -> σ'.heap.get? a = some o -> H.get? a = some o) -> FlRd w.params H (fun a => X' a /\ ¬ F a) fl' fl -> OUT fl { σ' with heap := H, toks := tk } := by
  intro fl' fl ρ' X' σ' H tk hK' S' kb g hH hfl
  refine ⟨fl', ρ', fun a => X' a /\ ¬ F a, hK', S'.dropX X0F hH, hfl, ?_, ?_⟩
  ·refine xEEAA kb fun H1 t1 z1q _ hpin => ?_; clear kb; rename_i kb; obtain rfl := z1q
   have kk := kh (kt kA kB)
   refine xEEA k₂ fun H2 t2 e2 _ => ?_; (try clear k₂)
   subst e2
   refine ⟨H, tk, rfl, fun b o hb e => ?_, ((Pin.all kk).trans hpin).trans (Pin.but F (fun f => by obtain ⟨o, e⟩ := SA.live _ SA.loc; exact nF e f) (fun n q e f => by obtain ⟨o, e'⟩ := SA.live _ (SA.cells n q e).1; exact nF e' f) fun b o hb e => hH b o hb e)⟩
   have e' := kh kA _ _ e
   refine hH b o (nF e') (kb b o (hb.imp (fun hb q => q.elim hb (nF e')) id) (kh kB _ _ e'))
  ·intro a q
   rcases g a q.1 with (z | z) | z
   ·exact .inl z
   ·exact absurd z q.2
   ·refine .inr ?_
    cases y : σ.heap.get? a with
    | none => rfl
    | some o => exact clash z (kh (kt kA kB) _ _ y)
 let Inv : Nat -> Shared -> Prop := fun k σ' => ∃ i ρ' X', T i σ'.heap /\ i <= ds.length /\ k = ds.length + 1 - i /\ forL bd keep (ds.drop i) ρ' K /\ St w.params hT env ZF X' ρ' σ'.heap /\
   KB N env X₀ XF s₂ σ' /\ Grow XF X' s₂
 refine codeAny_forLoop Inv ?_ (ds.length + 1) ⟨0, _, _, h0, Nat.zero_le _, rfl, hK, S₂, KB.of (kr _), Grow.rfl⟩
 rintro k σ' ⟨i, ρ', X', hTi, hi', rfl, hw', S', kb, g⟩
 have FX : ∀ a, F a -> X' a := fun a f => S'.sub a (.inr f)
 have fpX : ∀ b ∈ fp, ¬ X' b \/ (X₀ b \/ F b) := fun b hb' => by
  rcases ho b hb' with q | q
  ·exact .inr (.inr q)
  ·by_cases f : F b
   ·exact .inr (.inr f)
   ·refine .inl fun z => ?_
    rcases g b z with (z | z) | z
    ·exact q z
    ·exact f z
    ·refine xE (hl 0 _ h0 b hb') fun o e => ?_
     exact clash z e
 by_cases hlt : i < ds.length
 ·obtain ⟨d, hd⟩ : ∃ d, ds[i]? = some d := ⟨ds[i], by simp [hlt]⟩
  have hdrop : ds.drop i = d :: ds.drop (i + 1) := by
   refine rwG (List.drop_eq_getElem_cons hlt) ?_
   congr 1
   have := List.getElem?_eq_getElem hlt
   rw [hd] at this; exact (osi this).symm
  rw [hdrop] at hw'
  unfold forL at hw'
  refine W.item i σ' _ _ hlt hTi fun v h₁ tk₁ hP hT₁ hk₁ => ?_
  have S₁ : St w.params hT env ZF X' ρ' h₁ := S'.turnX (fun a f => hl _ _ hT₁ a (W.sub a f)) fun a o nf e => hk₁ a o nf e
  have hrd : Rd w.params h₁ X' d v := (hr i v d hP hd).move (fun a o hx e => hk₁ a o (nF e) (kb.heap a o (.inl fun q => q.elim hx (nF e)) (kh kB _ _ e))) fun a o e q => by
   rcases g a q with (z | z) | z
   ·exact z
   ·exact absurd z (nF e)
   ·exact clash z (kh kB _ _ e)
  have kb₁ : KB N env X₀ X' σ' { σ' with heap := h₁, toks := tk₁ } := ⟨h₁, tk₁, rfl, fun b o hb' e => hk₁ b o (fun f => hb'.elim (fun q => q (FX b f)) fun q => X0F b q f) e, Pin.but F (fun f => by obtain ⟨o, e⟩ := SA.live _ SA.loc; exact nF e f) (fun n q e f => by obtain ⟨o, e'⟩ := SA.live _ (SA.cells n q e).1; exact nF e' f) fun b o hb e => hk₁ b o hb e⟩
  refine wpAny_mono (Q := fun _ σ₂ => wpAny (model prog w) A (execs xs env) (fun f s₃ => match f with
     | .next | .cont => ∃ m, m < ds.length + 1 - i /\ Inv m s₃
     | .brk => OUT .next s₃
     | .ret v => OUT (.ret v) s₃) FF σ₂) (E := FF) ?_ (fun _ σ₂ q => wpAny_mono q (fun _ _ z => z) fun _ _ f => f.elim) (fun _ _ f => f.elim)
  refine wpAny_assign_Name (store_v (X₀ := ZF) (X := X') (σ₀ := { σ' with heap := h₁, toks := tk₁ }) (N := N) (fun y hy q => hy (q ▸ mem_cons_self)) h1 hn S₁ (kr _) hrd fun σ₂ kb₂ S₂' => ?_)
  have hT₂ : T (i + 1) σ₂.heap := W.frame _ _ _ hT₁ fun b hb' o e => kb₂.heap b o (fpX b hb') e
  refine wpAny_mono (hb names xs env _ _ X' σ₂ _ h4 hn S₂' hw') (fun fl σ₃ q => ?_) (fun _ _ f => f)
  refine xEEEAAAA q fun fl' ρ'' X'' hK' S'' hf kb₃ g₃ => ?_; (try clear q)
  have kbA : KB N env X₀ XF s₂ σ₂ := (kb.then g kb₁).then g (kb₂.weak fun _ z => .inl z)
  have kb₃ : KB N env ZF X' σ₂ σ₃ := kb₃.mono fun y hy q => hy (mem_cons_of_mem _ q)
  have kbB : KB N env X₀ XF s₂ σ₃ := kbA.then g (kb₃.weak fun _ z => .inl z)
  have gB : Grow XF X'' s₂ := Grow.then kbA g g₃
  have hself : ∀ a o, ¬ F a -> σ₃.heap.get? a = some o -> σ₃.heap.get? a = some o := fun _ _ _ e => e
  cases fl' with
  | next =>
   cases fl <;> first | exact hf.elim | skip
   exact ⟨ds.length + 1 - (i + 1), by lia, i + 1, keepR keep ρ'', X'', W.frame _ _ _ hT₂ fun b hb' o e => kb₃.heap b o (fpX b hb') e, hlt, rfl, hK', S''.keepR keep, kbB, gB⟩
  | brk =>
   cases fl <;> first | exact hf.elim | skip
   exact out .next .next _ X'' σ₃ σ₃.heap σ₃.toks hK' (S''.keepR keep) kbB gB hself trivial
  | ret d' =>
   cases fl <;> first | exact hf.elim | skip
   exact out (.ret d') (.ret _) _ X'' σ₃ σ₃.heap σ₃.toks hK' S'' kbB gB hself (Rd.less hf fun _ z => z.1)
 ·have hin : i = ds.length := by lia
  subst hin
  rw [List.drop_length] at hw'
  refine W.done σ' _ _ hTi fun h₁ tk₁ hk₁ => wpAny_execs_nil ?_
  exact out .next .next ρ' X' σ' h₁ tk₁ hw' S' kb g (fun a o nf e => hk₁ a o nf e) trivial
theorem inv_while {st : Stmt} (hm : mS names (.whileS t keep body) st = true) : ∃ t' xs pos, st = .While t' xs [] pos /\ mE names t t' = true /\ t.isOwn = false /\ mB names body xs = true := by
 refine wWhi_E hm fun t' xs els pos hm => ?_
 refine w0_E hm fun hm => ?_
 refine an3 hm fun h1 h2 h3 => ?_
 exact ⟨_, _, _, rfl, h1, not_t h2, h3⟩
theorem ex_while (ht : IsS prog w hT c A t) (hb : BlS prog w hT c A body) : ExS prog w hT c A (.whileS t keep body) := by
 intro names st env ρ X₀ X σ K hm hn S hw
 let Nm : String -> Prop := fun y => y ∉ (CS.whileS t keep body).sto
 let OUT : Flow -> Shared -> Prop := SP w hT Nm env X₀ X σ K
 let ts : Ro -> (Bool -> Prop) -> Prop := fun ρ' q => evW c ρ' t (onBool q)
 let bd : Ro -> (Fl -> Ro -> Prop) -> Prop := fun ρ' => exsW c body ρ'
 apply xEEEAAAq1L (inv_while hm); intro t' xs pos h1 h2 h3
 show wpAny (model prog w) A (exec (.While t' xs [] pos) env) OUT FF σ
 refine xE hw fun N _ => ?_; clear hw; rename_i hw
 refine wpAny_While ?_
 let Inv : Nat -> Shared -> Prop := fun k σ' => ∃ ρ' X', whileL ts bd keep k ρ' K /\ St w.params hT env X₀ X' ρ' σ'.heap /\ KB Nm env X₀ X σ σ' /\ Grow X X' σ
 refine codeAny_whileLoop Inv ?_ N ⟨_, X, hw, S.keepR keep, KB.of (kr σ), Grow.rfl⟩
 rintro k σ' ⟨ρ', X', hw', S', kb, g⟩
 cases k with
 | zero => exact hw'.elim
 | succ k =>
  unfold whileL at hw'
  refine wpAny_mono (ht.use (Q := fun b σ₁ => Keeps σ' σ₁ /\ St w.params hT env X₀ X' ρ' σ₁.heap /\ ((b = true -> exsW c body ρ' fun fl ρ' => (match fl with
   | .next => whileL ts bd keep k (keepR keep ρ') K
   | .brk => K .next (keepR keep ρ')
   | .ret v => K (.ret v) ρ')) /\ (b = false -> K .next ρ'))) h1 h2 hn S' hw' fun b σ₁ k₁ S₁ hK => ⟨k₁, S₁, hK⟩) (fun b σ₁ q => ?_) (fun _ _ f => f.elim)
  refine xAA q fun k₁ S₁ hK => ?_; (try clear q)
  have kb₁ : KB Nm env X₀ X σ σ₁ := kb.then g (KB.of k₁)
  cases b with
  | false => exact wpAny_execs_nil ⟨.next, ρ', X', hK.2 rfl, S₁, trivial, kb₁, g⟩
  | true =>
   refine wpAny_mono (hb names xs env _ X₀ X' σ₁ _ h3 hn S₁ (hK.1 rfl)) (fun fl σ₂ q => ?_) (fun _ _ f => f.elim)
   refine xEEEAAAA q fun fl' ρ'' X'' hK' S'' hf kb₂ g₂ => ?_; (try clear q)
   have kb₃ := kb₁.then g (kb₂.mono fun y hy q => hy q)
   have g₃ : Grow X X'' σ := Grow.then kb₁ g g₂
   cases fl' with
   | next =>
    cases fl <;> first | exact hf.elim | skip
    exact ⟨k, Nat.lt_succ_self _, keepR keep ρ'', X'', hK', S''.keepR keep, kb₃, g₃⟩
   | brk =>
    cases fl <;> first | exact hf.elim | skip
    exact ⟨.next, _, X'', hK', S''.keepR keep, trivial, kb₃, g₃⟩
   | ret d' =>
    cases fl <;> first | exact hf.elim | skip
    exact ⟨.ret d', _, X'', hK', S'', hf, kb₃, g₃⟩
theorem inv_assignO {st : Stmt} (hm : mS names (.assignO x e) st = true) : ∃ n p v pos, st = .Assign [.Name n p] v pos /\ isStore names x n = true /\ mE names e v = true /\ e.fresh = true /\ isComp v = false := by
 refine wAsg_E hm fun ts v pos hm => ?_
 refine wName1_E hm fun n p hm => ?_
 refine an4 hm fun h1 h2 h3 h4 => ?_
 exact ⟨_, _, _, _, rfl, h1, h2, h3, not_t h4⟩
theorem fresh_own {e : CE} (h : e.fresh = true) : e.isOwn = false := by cases e <;> first | rfl | injection h
theorem store_o (hp : ∀ y, N y -> y ≠ x) (hs : isStore names x n = true) (hn : env.scope.names = names) (S : St w.params hT env X₀ X ρ σ₀.heap)
  (k : Keeps σ₀ σ₁) (hf : σ₀.heap.get? a = none) (hr : OwnRd w.params σ₁.heap (fun b => X b \/ b = a) d (.ref a) a)
  (h : ∀ σ', KB N env X₀ X σ₀ σ' -> St w.params hT env X₀ (fun b => X b \/ b = a) ((x, .own d) :: ρ) σ'.heap -> Q () σ') : wpAny (model prog w) A (storeName env n (.ref a)) Q FF σ₁ := by
 have h1 : ∀ b o, σ₀.heap.get? b = some o -> (X b \/ b = a) -> X b := fun b o e x => x.resolve_right fun q => by rw [q] at e; exact clash hf e
 have h2 : ∀ b, (X b \/ b = a) -> ∃ o, σ₁.heap.get? b = some o := fun b x => by
  rcases x with x | q
  ·obtain ⟨o, e⟩ := S.live b x; exact ⟨o, kh k _ _ e⟩
  ·refine rwG q ?_; exact OwnRd.live hr
 have h3 : ¬ X₀ a := fun q => by
  refine xE (S.live a (S.sub a q)) fun o e => ?_
  exact clash hf e
 exact store_ent (e := .own d) (r := a) hp hs hn S k h1 (fun _ x => .inl x) h2 hr (fun _ _ => ⟨hf, h3⟩) h
theorem grow1 (hf : σ.heap.get? a = none) : Grow X (fun b => X b \/ b = a) σ := fun b x => by
 rcases x with x | q
 ·exact .inl x
 ·refine rwG q ?_; exact .inr hf
theorem ex_assignO (he : EvS prog w hT c A e) : ExS prog w hT c A (.assignO x e) := by
 intro names st env ρ X₀ X σ K hm hn S hw
 apply xEEEEAAAAq1L (inv_assignO hm); intro n p v pos h1 h2 h3 h4
 refine wpAny_Assign_Name (he.use h2 hn S hw fun u σ₁ d k S₁ hK hr hfr => ?_) (no_swap h4)
 cases d <;> first | exact hK.elim | skip
 rename_i ds
 refine xA hK fun hfl _ => ?_; clear hK; rename_i hK
 have r := hr.rd (fresh_own h3)
 cases r with
 | list hx ho hrs =>
  rename_i a vs m
  have hf := hfr h3 ds rfl a rfl
  exact store_o (fun y hy q => hy (q ▸ mem_cons_self)) h1 hn S k hf (.list (.inr rfl) ho (hrs.flat hfl)) fun σ' kb S' => ⟨.next, _, _, hK, S', trivial, kb, grow1 hf⟩
theorem inv_assignD {st : Stmt} (hm : mS names (.assignD x) st = true) : ∃ n p q pos, st = .Assign [.Name n p] (.Dict [] [] q) pos /\ isStore names x n = true := by
 refine wAsg_E hm fun ts v pos hm => ?_
 refine wName1_E hm fun n p hm => ?_
 refine wDic_E hm fun ks vs q hm => ?_
 refine w0_E hm fun hm => ?_
 refine w0_E hm fun hm => ?_
 exact ⟨_, _, _, _, rfl, hm⟩
theorem ex_assignD (hC : CxOK prog w hT c A) : ExS prog w hT c A (.assignD x) := by
 intro names st env ρ X₀ X σ K hm hn S hw
 apply xEEEEAq1L (inv_assignD hm); intro n p q pos h1
 refine wpAny_Assign_Name (wpAny_Dict_empty ?_) rfl
 have k := kpush σ { cls := .type "dict", data := .dict #[] }
 have hz : (σ.heap.objs.size == sysModules) = false := by
  refine xE hC.main fun o ho => ?_
  have : @LT.lt Nat _ 3 σ.heap.objs.size := Heap.lt_size (S.base _ _ ho)
  exact beq_eq_false_iff_ne.mpr fun e => by
   have e' : σ.heap.objs.size = 1 := e
   lia
 exact store_o (fun y hy q => hy (q ▸ mem_cons_self)) h1 hn S k (fresh_size (kr σ)) (.dict (es := []) (ks := []) (ds := []) hz (.inr rfl) (Heap.get?_push_size _ rfl) trivial .nil) fun σ' kb S' => ⟨.next, _, _, hw, S', trivial, kb, grow1 (fresh_size (kr σ))⟩
theorem inv_multi {st : Stmt} (hm : mS names (.multi x y z e) st = true) : ∃ n1 p1 n2 p2 n3 p3 v pos, st = .Assign [.Name n1 p1, .Name n2 p2, .Name n3 p3] v pos /\ isStore names x n1 = true /\ isStore names y n2 = true /\ isStore names z n3 = true /\ mE names e v = true /\ e.isOwn = false /\ isComp v = false := by
 refine wAsg_E hm fun ts v pos hm => ?_
 refine w3_E hm fun a b c hm => ?_
 refine wName_E hm fun n1 p1 hm => ?_
 refine wName_E hm fun n2 p2 hm => ?_
 refine wName_E hm fun n3 p3 hm => ?_
 refine an6 hm fun h1 h2 h3 h4 h5 h6 => ?_
 exact ⟨_, _, _, _, _, _, _, _, rfl, h1, h2, h3, h4, not_t h5, not_t h6⟩
theorem rd_kb (r : Rd w.params σ.heap X d v) (k : KB N env X₀ X σ σ') : Rd w.params σ'.heap X d v := r.move (fun a o hx e => k.heap a o (.inl hx) e) (fun _ _ _ x => x)
theorem ex_multi (he : EvS prog w hT c A e) : ExS prog w hT c A (.multi x y z e) := by
 intro names st env ρ X₀ X σ K hm hn S hw
 apply xEEEEEEEEAAAAAAq1L (inv_multi hm); intro n1 p1 n2 p2 n3 p3 v pos h1 h2 h3 h4 h5 h6
 refine wpAny_Assign_three (he.use h4 hn S hw fun u σ₁ d k S₁ hK hr _ => wpAny_assign_Name ?_) rfl (by cases v <;> rfl)
 have r := hr.rd h5
 refine store_v (N := fun q => q ∉ (CS.multi x y z e).sto) (fun y hy q => hy (q ▸ mem_cons_self)) h1 hn S₁ (kr _) r fun σ₂ kb₂ S₂ => wpAny_assign_Name ?_
 have r₂ := rd_kb r kb₂
 refine store_v (N := fun q => q ∉ (CS.multi x y z e).sto) (fun y hy q => hy (q ▸ mem_cons_of_mem _ mem_cons_self)) h2 hn S₂ (kr _) r₂ fun σ₃ kb₃ S₃ => wpAny_assign_Name ?_
 refine store_v (N := fun q => q ∉ (CS.multi x y z e).sto) (fun y hy q => hy (q ▸ mem_cons_of_mem _ (mem_cons_of_mem _ mem_cons_self))) h3 hn S₃ (kr _) (rd_kb r₂ kb₃) fun σ₄ kb₄ S₄ => ?_
 exact ⟨.next, _, X, hK, S₄, trivial, (((KB.of k).then Grow.rfl kb₂).then Grow.rfl kb₃).then Grow.rfl kb₄, Grow.rfl⟩
theorem inv_unp {st : Stmt} (hm : mS names (.unp x y e) st = true) : ∃ n1 p1 n2 p2 tk tp v pos, st = .Assign [.Tuple [.Name n1 p1, .Name n2 p2] tk tp] v pos /\ isStore names x n1 = true /\ isStore names y n2 = true /\ x ≠ y /\ mE names e v = true /\ e.isOwn = false /\ isTup v = false /\ isComp v = false := by
 refine wAsg_E hm fun ts v pos hm => ?_
 refine wTup2_E hm fun n p n' p' k q hm => ?_
 refine an7 hm fun h1 h2 h3 h4 h5 h6 h7 => ?_
 exact ⟨_, _, _, _, _, _, _, _, rfl, h1, h2, bne_iff_ne.mp h3, h4, not_t h5, not_t h6, not_t h7⟩
theorem ex_unp (C : CxOK prog w hT c A) (he : EvS prog w hT c A e) : ExS prog w hT c A (.unp x y e) := by
 intro names st env ρ X₀ X σ K hm hn S hw
 obtain ⟨n1, p1, n2, p2, tk, tp, v, pos, rfl, h1, h2, h3, h4, h5, h6, h7⟩ := inv_unp hm
 have hsw : swapsWithSole [.Tuple [.Name n1 p1, .Name n2 p2] tk tp] v pos.line env = pure false := by unfold swapsWithSole; exact no_swap h7
 have hst : swappedStores [.Tuple [.Name n1 p1, .Name n2 p2] tk tp] v env = pure none := by cases v <;> first | rfl | injection h6
 refine Assign_Tuple (he.use h4 hn S hw fun u σ₁ d k S₁ hK hr _ => ?_) hsw hst
 have r := hr.rd h5
 cases d <;> first | exact hK.elim | skip
 rename_i ds _
 rcases ds with _ | ⟨a, _ | ⟨b, _ | ⟨_, _⟩⟩⟩ <;> first | exact hK.elim | skip
 refine r.tupE fun t vs m hx ho hrs => ?_
 obtain ⟨va, vb, rfl⟩ : ∃ va vb, vs = #[va, vb] := by
  have e : vs.toList.length = 2 := by refine rwG (Eq.symm hrs.length) ?_; rfl
  obtain ⟨l⟩ := vs
  rcases l with _ | ⟨va, _ | ⟨vb, _ | ⟨_, _⟩⟩⟩ <;> simp at e
  exact ⟨va, vb, rfl⟩
 refine Rds.consE' hrs fun ra rs => Rds.consE' rs fun rb _ => ?_
 have hIs : σ₁.heap.IsTuple t #[va, vb] := ⟨_, ho, rfl, m, rfl⟩
 refine wpAny_assign_Tuple C.hh hIs rfl rfl fun h' hext => ?_
 have kk : Keeps σ₁ { σ₁ with heap := h' } := ⟨h', σ₁.toks, rfl, fun b o e => hext b o (Nat.ne_of_lt (Heap.lt_size e)) e⟩
 have S₂ := S₁.to kk
 show wpAny _ _ (do holding [vb] (assign (.Name n1 p1) env va); assignInOrder [assign (.Name n2 p2) env] [vb]) _ _ _
 refine wpAny_bind (wpAny_holding (wpAny_assign_Name (store_v (N := fun z => z ∉ (CS.unp x y e).sto) (fun y hy q => hy (q ▸ mem_cons_self)) h1 hn S₂ (kr _) (ra.keeps (kh kk)) fun σ₃ kb₃ S₃ => ?_)))
 show wpAny _ _ (do holding [] (assign (.Name n2 p2) env vb); assignInOrder [] []) _ _ _
 refine wpAny_bind (wpAny_holding (wpAny_assign_Name (store_v (N := fun z => z ∉ (CS.unp x y e).sto) (fun y hy q => hy (q ▸ mem_cons_of_mem _ mem_cons_self)) h2 hn S₃ (kr _) (rd_kb (rb.keeps (kh kk)) kb₃) fun σ₄ kb₄ S₄ => ?_)))
 exact wpAny_pure ⟨.next, _, X, hK, S₄, trivial, ((KB.of (kt k kk)).then Grow.rfl kb₃).then Grow.rfl kb₄, Grow.rfl⟩
theorem inv_swp {st : Stmt} (hm : mS names (.swp x y a b) st = true) : ∃ n1 p1 n2 p2 tk tp va vb vk vp pos, st = .Assign [.Tuple [.Name n1 p1, .Name n2 p2] tk tp] (.Tuple [va, vb] vk vp) pos /\ isStore names x n1 = true /\ isStore names y n2 = true /\ x ≠ y /\
  names.lookup n1 = some .local /\ names.lookup n2 = some .local /\ p1.line = p2.line /\ mE names a va = true /\ mE names b vb = true /\ a.isOwn = false /\ b.isOwn = false /\ (wAtt va (fun _ _ _ => true) && wAtt vb fun _ _ _ => true) = true := by
 refine wAsg_E hm fun ts v pos hm => ?_
 refine wTup2_E hm fun n p n' p' k q hm => ?_
 refine wTup_E hm fun l k' q' hm => ?_
 refine w2_E hm fun va vb hm => ?_
 refine an11 hm fun h0 h1 h2 h3 h4 h5 h6 h7 h8 h9 h10 => ?_
 exact ⟨_, _, _, _, _, _, _, _, _, _, _, rfl, h1, h2, bne_iff_ne.mp h3, beq_iff_eq.mp h4, beq_iff_eq.mp h5, beq_iff_eq.mp h6, h7, h8, not_t h9, not_t h10, h0⟩
theorem swapped_of (hn : env.scope.names = names) (hk : env.scope.kind = .function) (hne : n1 ≠ n2) (h1 : names.lookup n1 = some .local) (h2 : names.lookup n2 = some .local) (hl : p1.line = p2.line)
  (ha : (wAtt va (fun _ _ _ => true) && wAtt vb fun _ _ _ => true) = true) :
  swappedStores [.Tuple [.Name n1 p1, .Name n2 p2] tk tp] (.Tuple [va, vb] vk vp) env = pure (some [n1, n2]) := by
 have k1 : env.kindOf n1 = some .local := by unfold Env.kindOf; refine rwG hn ?_; exact h1
 have k2 : env.kindOf n2 = some .local := by unfold Env.kindOf; refine rwG hn ?_; exact h2
 have bk : env.blockKind = .function := by unfold Env.blockKind; refine rwG hk ?_; rfl
 have e1 : ([n1, n2] : List Str).eraseDups = [n1, n2] := by
  refine rwG List.eraseDups_cons ?_
  simp [Ne.symm hne, List.eraseDups_cons, List.eraseDups_nil]
 have e2 : ([Expr.Name n1 p1, .Name n2 p2].filterMap fun | .Name id pos => if env.kindOf id == some .local && pos.line == p1.line then some id else none | _ => none) = [n1, n2] := by
  show List.filterMap _ _ = _
  dsimp only [filterMap_cons, filterMap_nil]
  refine rwG k1 (rwG k2 (rwG hl (rwG (beq_self_eq_true p2.line) ?_)))
  rfl
 refine xA (and3 ha) fun a1 a2 => ?_
 refine wAtt_E a1 fun _ _ _ _ => ?_
 refine wAtt_E a2 fun _ _ _ _ => ?_
 have key : ∀ l : List Str, l = [n1, n2] -> (if (l.length != 2 || l.eraseDups.length != l.length) = true then (pure none : Sem (Option (List Str))) else pure (some l)) = pure (some [n1, n2]) := fun l e => by
  refine rwG e (rwG e1 ?_); rfl
 unfold swappedStores
 dsimp only
 exact (if_neg (by refine rwG bk ?_; exact Bool.false_ne_true)).trans ((if_neg Bool.false_ne_true).trans (key _ e2))
theorem ex_swp (C : CxOK prog w hT c A) (ha : EvS prog w hT c A a) (hb : EvS prog w hT c A b) : ExS prog w hT c A (.swp x y a b) := by
 intro names st env ρ X₀ X σ K hm hn S hw
 obtain ⟨n1, p1, n2, p2, tk, tp, va, vb, vk, vp, pos, rfl, h1, h2, h3, h4, h5, h6, h7, h8, h9, h10, h11⟩ := inv_swp hm
 have hne : n1 ≠ n2 := by
  refine rwG ((nm_ok (store_ok h1).1).1) (rwG ((nm_ok (store_ok h2).1).1) ?_)
  exact fun q => h3 (ofString_inj q)
 refine Assign_Tuple_swapped ?_ rfl (swapped_of hn S.fn hne h4 h5 h6 h11)
 refine wpAny_Tuple (wpAny_items_cons (ha.use h7 hn S hw fun u σ₁ d k S₁ hK hr _ => wpAny_items_cons (hb.use h8 hn S₁ hK fun u₂ σ₂ d₂ k₂ S₂ hK₂ hr₂ _ => wpAny_items_nil ⟨by show 2 <= sizeLine; decide, ?_⟩) (star_of h8)) (star_of h7))
 have kp := kpush σ₂ { cls := .type "tuple", data := .seq [u, u₂].toArray }
 refine wpAny_unpackItems_tuple C.hh (items := #[u, u₂]) ⟨_, Heap.get?_push_size _ rfl, rfl, 0, rfl⟩ fun h' hext => ?_
 have kk : Keeps { σ₂ with heap := σ₂.heap.push { cls := .type "tuple", data := .seq [u, u₂].toArray } } { σ₂ with heap := h' } := ⟨h', σ₂.toks, rfl, fun b o e => hext b o (Nat.ne_of_lt (Heap.lt_size e)) e⟩
 have kf : Keeps σ₂ { σ₂ with heap := h' } := kt kp kk
 have S₃ := S₂.to kf
 show wpAny _ _ (do holding [u] (bindName env n2 u₂); assignInOrder [fun v => bindName env n1 v] [u]) _ _ _
 refine wpAny_bind (wpAny_holding (wpAny_bindName (store_v (N := fun z => z ∉ (CS.swp x y a b).sto) (fun y hy q => hy (q ▸ mem_cons_of_mem _ mem_cons_self)) h2 hn S₃ (kr _) ((hr₂.rd h10).keeps (kh kf)) fun σ₄ kb₄ S₄ => ?_)))
 show wpAny _ _ (do holding [] (bindName env n1 u); assignInOrder [] []) _ _ _
 refine wpAny_bind (wpAny_holding (wpAny_bindName (store_v (N := fun z => z ∉ (CS.swp x y a b).sto) (fun y hy q => hy (q ▸ mem_cons_self)) h1 hn S₄ (kr _) (rd_kb ((hr.rd h9).keeps (kh (kt k₂ kf))) kb₄) fun σ₅ kb₅ S₅ => ?_)))
 exact wpAny_pure ⟨.next, _, X, hK₂, S₅, trivial, ((KB.of (kt k (kt k₂ kf))).then Grow.rfl kb₄).then Grow.rfl kb₅, Grow.rfl⟩
theorem St.own_at (S : St P hT env X₀ X ρ h) (hl : ρ.lookup x = some (.own d)) : ∃ m v r, h.Ns env.locals m /\ VarAt env m h x v /\ OwnRd P h X d v r /\ X r /\ ¬ X₀ r /\ r ≠ env.locals /\ (∀ n c, env.cells.lookup n = some c -> r ≠ c) /\
  ∀ (h₁ h' : Heap) (d' : D), (∀ a o, h.get? a = some o -> h₁.get? a = some o) -> (∀ b o, b ≠ r -> h₁.get? b = some o -> h'.get? b = some o) -> OwnRd P h' X d' v r -> St P hT env X₀ X ((x, .own d') :: ρ) h' := by
 refine xEEAAA S.vars fun m κ hn hv hi ho => ?_
 refine xEA (hv x _ hl) fun v hva hr => ?_
 have hr : OwnRd P h X d v (κ x) := hr
 refine xAA (ho x d hl) fun q1 q2 q3 => ?_
 have rX := OwnRd.root hr
 refine ⟨m, v, κ x, hn, hva, hr, rX, q1, q2, q3, fun h₁ h' d' k u hr' => ?_⟩
 have mv : ∀ a o, a ≠ κ x -> h.get? a = some o -> h'.get? a = some o := fun a o hne e => u a o hne (k a o e)
 have mvX : ∀ a o, ¬ X a -> h.get? a = some o -> h'.get? a = some o := fun a o hx e => mv a o (fun z => hx (z ▸ rX)) e
 have vat : ∀ y u', VarAt env m h y u' -> VarAt env m h' y u' := fun y u' hva => by
  rcases hva with a | ⟨a, cc, b, o, d, e'⟩
  ·exact .inl a
  ·exact .inr ⟨a, cc, b, o, mv _ _ (Ne.symm (q3 _ cc b)) d, e'⟩
 refine ⟨fun a o e => mv a o (fun z => ?_) (S.base a o e), S.off, fun a z => ?_, S.sub, S.fn, S.glob, S.blt, S.loc, S.loc0, S.cell0, S.celled,
  fun n q e => ⟨(S.cells n q e).1, (S.cells n q e).2.1, let ⟨v, o, x, y⟩ := (S.cells n q e).2.2; ⟨v, o, mv _ _ (Ne.symm (q3 n q e)) x, y⟩⟩, S.apart, m, κ, hn.at' fun o e => mv _ _ (Ne.symm q2) e, ?_, ?_, ?_⟩
 ·rw [z] at e; exact clash (S.off _ rX) e
 ·by_cases hz : a = κ x
  ·refine rwG hz ?_; exact OwnRd.live hr'
  ·obtain ⟨o, e⟩ := S.live a z; exact ⟨o, mv a o hz e⟩
 ·intro y e q
  rcases look_put q with ⟨rfl, rfl⟩ | ⟨hy, q⟩
  ·exact ⟨v, vat _ _ hva, hr'⟩
  ·refine xEA (hv y e q) fun u' hva' hr'' => ?_
   refine ⟨u', vat _ _ hva', ?_⟩
   cases e with
   | v d1 => exact Rd.move mvX (fun _ _ _ z => z) hr''
   | own d1 => exact OwnRd.move hr'' (fun _ e => mv _ _ (fun z => hy (hi y x d1 d q hl z)) e) (OwnRd.root hr'') mvX (fun _ _ _ z => z)
 ·intro y z d1 d2 a b e
  have red : ∀ y d1, ((x, Ent.own d') :: ρ).lookup y = some (.own d1) -> ∃ d3, ρ.lookup y = some (.own d3) := fun y d1 a => by
   rcases look_put a with ⟨rfl, _⟩ | ⟨_, q⟩
   ·exact ⟨d, hl⟩
   ·exact ⟨d1, q⟩
  refine xE (red y d1 a) fun d3 a' => ?_
  refine xE (red z d2 b) fun d4 b' => ?_
  exact hi y z d3 d4 a' b' e
 ·intro y d1 a
  rcases look_put a with ⟨rfl, _⟩ | ⟨_, q⟩
  ·exact ⟨q1, q2, q3⟩
  ·exact ho y d1 q
theorem load_at (hx : isNm x n = true) (S : St w.params hT env X₀ X ρ σ.heap) (hns : σ.heap.Ns env.locals m) (hva : VarAt env m σ.heap x v) (h : Q v σ) :
  wpAny (model prog w) A (eval (.Name n pos) env) Q FF σ := by
 refine xAA (nm_ok hx) fun z1q hd hc => ?_; obtain rfl := z1q
 rcases hva with ⟨hk, hmx⟩ | ⟨hk | hk, cc, hcc, hcell⟩
 ·exact wpAny_Name (wpAny_loadName_local S.fn hk hns hmx h) hd
 ·exact wpAny_Name (wpAny_loadName_cell S.fn hk hcc hcell h) hd
 ·exact wpAny_Name (wpAny_loadName_free S.fn hk hcc hcell h hc) hd
theorem upd_kb (k : Keeps σ σ₁) (u : Upd1 r σ₁ σ') (hX : X r) (h0 : ¬ X₀ r) (hl : r ≠ env.locals) (hc : ∀ n c, env.cells.lookup n = some c -> r ≠ c) : KB N env X₀ X σ σ' := by
 refine xEEA k fun H t z1q hk => ?_; (try clear k); obtain rfl := z1q
 refine xEEA u fun H' t' z1q hu => ?_; (try clear u); obtain rfl := z1q
 refine ⟨H', t', rfl, fun b o hb e => hu b o (fun z => ?_) (hk b o e), (Pin.all hk).trans (Pin.but (fun a => a = r) (fun z => hl z.symm) (fun n c e z => hc n c e z.symm) fun b o hb e => hu b o hb e)⟩
 rw [z] at hb
 exact hb.elim (fun q => q hX) h0
theorem upd_heap (u : Upd1 r σ₁ σ') : ∀ b o, b ≠ r -> σ₁.heap.get? b = some o -> σ'.heap.get? b = some o := by
 apply xEEAq1L u; intro H' t' hu; (try clear u)
 exact hu
theorem drop_ok (h : Q .next σ) : wpAny (model prog w) A (dropValue (.Call f args ks p) pos v) Q FF σ := by
 cases v with
 | ref a => exact wpAny_bind (wpAny_standAt (wpAny_bind (wpAny_runValue (codeAny_builtin entry_let_go (show wpAny _ _ (ret .none) _ _ σ from wpAny_pure (wpAny_pure h))))))
 | _ => exact wpAny_pure h
theorem inv_mut {st : Stmt} (hm : mS names (.mutS x m as) st = true) : ∃ n p apos args pos epos, st = .Expr (.Call (.Attribute (.Name n p) (ofString m) apos) args [] pos) epos /\ isNm x n = true /\ mL names as args = true /\ args.length < 20 /\ (apos.endLine == pos.line) = true := by
 refine wExp_E hm fun e epos hm => ?_
 refine wCall_E hm fun g args kws pos hm => ?_
 refine w0_E hm fun hm => ?_
 refine wAtt_E hm fun o a apos hm => ?_
 refine wName_E hm fun n p hm => ?_
 refine an5 hm fun h1 h2 h3 h4 h5 => ?_
 exact ⟨_, _, _, _, _, _, by exact rwG (eq_of_beq h2) rfl, h1, h3, of_decide_eq_true h4, h5⟩
theorem not_inter (h : env.scope.kind = .function) : interactive env = false := by unfold interactive; refine rwG h ?_; rfl
theorem ex_mut (C : CxOK prog w hT c A) (ha : EsS prog w hT c A as) : ExS prog w hT c A (.mutS x m as) := by
 intro names st env ρ X₀ X σ K hm hn S hw
 apply xEEEEEEAAAAq1L (inv_mut hm); intro n p apos args pos epos h1 h2 h3 h4
 dsimp only [exW] at hw
 cases hl : ρ.lookup x with
 | none => rw [hl] at hw; exact hw.elim
 | some en =>
  rw [hl] at hw
  cases en with
  | v d => exact hw.elim
  | own d =>
   refine xA hw fun hid _ => ?_; clear hw; rename_i hw
   refine xE (Option.isSome_iff_exists.mp hid) fun id hid => ?_
   refine xEEEAAAAAAA (S.own_at hl) fun mm v r hns hva hr rX rX0 rl rc hmu => ?_
   refine rwG (exec_Expr env _ epos (not_inter S.fn) rfl) ?_
   refine wpAny_bind (wpAny_standAt (wpAny_bind ?_))
   rw [arm_eval_Call, base_of rfl]
   refine wpAny_bind (load_at h1 S hns hva (wpAny_bind (wpAny_standAt ?_)))
   have hform : methodCallForm (args.length + ([] : List Keyword).length) (backTo pos (starEach args env)) (backToKw pos (keywordEach [] env)) = true := by
    unfold methodCallForm
    refine rwG ((plain_args (env := env) (pos := pos) h2).2.1) ?_
    show (true && true && decide (args.length + 0 + 0 < 30)) = true
    simp; lia
   have hpos : methodCallPos true (.Name n p) env apos pos = pure pos := by unfold methodCallPos; simp [h4]
   unfold methodCall
   refine rwG hform ?_
   refine wpAny_bind (wpAny_holding ?_)
   show wpAny _ _ (getMethod v (ofString m) _) _ _ _
   refine C.mutM m d id X σ v r _ _ S.ok hid hr ?_
   refine wpAny_bind (wpAny_of_eq hpos ?_)
   refine Calls.callWith_builtin (plain_args h2).1 (args_use ha h2 hn S hw fun vs σ₁ ds k S₁ hK hrs => ?_)
   refine wpAny_mono (C.mutW m d id ds _ X σ₁ v r vs S₁.ok hid hK (hr.keeps (kh k)) hrs) (fun res σ' ⟨u, d', hK', hr'⟩ => drop_ok ?_) (fun _ _ f => f)
   exact ⟨.next, _, X, hK', hmu σ₁.heap σ'.heap d' (kh k) (upd_heap u) hr', trivial, upd_kb k u rX rX0 rl rc, Grow.rfl⟩
theorem inv_setItem {st : Stmt} (hm : mS names (.setItem x i e) st = true) : ∃ n p j q v pos, st = .Assign [.Subscript (.Name n p) j q] v pos /\ isNm x n = true /\ mE names i j = true /\ mE names e v = true /\ i.isOwn = false /\ e.isOwn = false /\ isComp v = false := by
 refine wAsg_E hm fun ts v pos hm => ?_
 refine w1_E hm fun t hm => ?_
 refine wSub_E hm fun o j q hm => ?_
 refine wName_E hm fun n p hm => ?_
 refine an7 hm fun h1 h2 h3 h4 h5 h6 h7 => ?_
 exact ⟨_, _, _, _, _, _, rfl, h1, h2, h3, not_t h4, not_t h5, not_t h6⟩
theorem ex_setItem (C : CxOK prog w hT c A) (hi : EvS prog w hT c A i) (he : EvS prog w hT c A e) : ExS prog w hT c A (.setItem x i e) := by
 intro names st env ρ X₀ X σ K hm hn S hw
 obtain ⟨n, p, j, q, v, pos, rfl, h1, h2, h3, h4, h5, h6⟩ := inv_setItem hm
 dsimp only [exW] at hw
 cases hl : ρ.lookup x with
 | none => rw [hl] at hw; exact hw.elim
 | some en =>
  rw [hl] at hw
  cases en with
  | v d => exact hw.elim
  | own d =>
   refine wpAny_Assign_Subscript (he.use h3 hn S hw fun u σ₁ de k S₁ hK hr _ => ?_) (no_swap h6)
   refine xEEEAAAAAAA (S₁.own_at hl) fun mm vo r hns hva ho rX rX0 rl rc hmu => ?_
   refine load_at h1 S₁ hns hva (hi.use h2 hn S₁ hK fun u₂ σ₂ di k₂ S₂ hK₂ hr₂ _ => ?_)
   refine wpAny_mono (C.setI d di de _ X σ₂ vo r u₂ u S₂.ok hK₂ (ho.keeps (kh k₂)) (hr₂.rd h4) ((hr.rd h5).keeps (kh k₂))) (fun _ σ' ⟨up, d', hK', hr'⟩ => ?_) (fun _ _ f => f)
   exact ⟨.next, _, X, hK', hmu σ₂.heap σ'.heap d' (kh k₂) (upd_heap up) hr', trivial, upd_kb (kt k k₂) up rX rX0 rl rc, Grow.rfl⟩
theorem inv_setAttr {st : Stmt} (hm : mS names (.setAttr x a e) st = true) : ∃ n p q v pos, st = .Assign [.Attribute (.Name n p) (ofString a) q] v pos /\ isNm x n = true /\ mE names e v = true /\ e.isOwn = false /\ isComp v = false := by
 refine wAsg_E hm fun ts v pos hm => ?_
 refine w1_E hm fun t hm => ?_
 refine wAtt_E hm fun o m q hm => ?_
 refine wName_E hm fun n p hm => ?_
 refine an5 hm fun h1 h2 h3 h4 h5 => ?_
 exact ⟨_, _, _, _, _, by exact rwG (eq_of_beq h2) rfl, h1, h3, not_t h4, not_t h5⟩
theorem ex_setAttr (C : CxOK prog w hT c A) (he : EvS prog w hT c A e) : ExS prog w hT c A (.setAttr x a e) := by
 intro names st env ρ X₀ X σ K hm hn S hw
 apply xEEEEEAAAAq1L (inv_setAttr hm); intro n p q v pos h1 h3 h5 h6
 dsimp only [exW] at hw
 cases hl : ρ.lookup x with
 | none => rw [hl] at hw; exact hw.elim
 | some en =>
  rw [hl] at hw
  cases en with
  | v d => exact hw.elim
  | own d =>
   refine plainObj_wpAny_Assign_Attribute (he.use h3 hn S hw fun u σ₁ de k S₁ hK hr _ => ?_) (no_swap h6)
   refine xEEEAAAAAAA (S₁.own_at hl) fun mm vo r hns hva ho rX rX0 rl rc hmu => ?_
   refine load_at h1 S₁ hns hva ?_
   refine wpAny_mono (C.setA d a de _ X σ₁ vo r u S₁.ok hK ho (hr.rd h5)) (fun _ σ' ⟨up, d', hK', hr'⟩ => ?_) (fun _ _ f => f)
   exact ⟨.next, _, X, hK', hmu σ₁.heap σ'.heap d' (fun _ _ e => e) (upd_heap up) hr', trivial, upd_kb k up rX rX0 rl rc, Grow.rfl⟩
mutual
theorem exA (C : CxOK prog w hT c A) : ∀ s : CS, ExS prog w hT c A s
 | .assign _ e => ex_assign (evA C e).1 fun h => crA C h
 | .assignO _ e => ex_assignO (evA C e).1
 | .assignD _ => ex_assignD C
 | .unp _ _ e => ex_unp C (evA C e).1
 | .swp _ _ a b => ex_swp C (evA C a).1 (evA C b).1
 | .multi _ _ _ e => ex_multi (evA C e).1
 | .aug _ _ e => ex_aug C (evA C e).1
 | .mutS _ _ as => ex_mut C (esA C as).1
 | .setItem _ i e => ex_setItem C (evA C i).1 (evA C e).1
 | .setAttr _ _ e => ex_setAttr C (evA C e).1
 | .ifS t a b => ex_if (evA C t).2 (blA C a) (blA C b)
 | .forS _ it _ body => ex_for (itA C it) (blA C body)
 | .whileS t _ body => ex_while (evA C t).2 (blA C body)
 | .ret e => ex_ret (evA C e).1
 | .brk => ex_brk
theorem blA (C : CxOK prog w hT c A) : ∀ b : CB, BlS prog w hT c A b
 | .nil => bl_nil
 | .cons s r => bl_cons (exA C s) (blA C r)
 | .freeze _ r => bl_freeze (blA C r)
end
structure Room (r : Nat) (A : Around) : Prop where
 hh : A.handled = none
 depth : A.depth + r < recursionLimit
 units : A.units + 3 * r + 200 < cLine
theorem Room.deeper (R : Room (r + 1) A) (env : Env) : Room r (A.deeper env) := ⟨R.hh, by have := R.depth; show A.depth + 1 + r < _; lia, by have := R.units; show A.units + 3 + 3 * r + 200 < _; lia⟩
theorem Room.less (R : Room r A) (h : r' <= r) : Room r' A := ⟨R.hh, by have := R.depth; lia, by have := R.units; lia⟩
theorem bindL_not {kindOf : Str -> Option NameKind} : ∀ {binds : List (Str × Value)} {m : Str -> Option Value}, (∀ p ∈ binds, p.1 ≠ y) -> bindL kindOf binds m y = m y
 | [], _, _ => rfl
 | (n, v) :: r, m, h => by
  unfold bindL
  refine rwG (bindL_not fun p hp => h p (mem_cons_of_mem _ hp)) ?_
  split
  ·exact if_neg (Ne.symm (h _ mem_cons_self))
  ·rfl
theorem bindC_not {kindOf : Str -> Option NameKind} : ∀ {binds : List (Str × Value)} {m : Str -> Option Value}, (∀ p ∈ binds, p.1 ≠ y) -> bindC kindOf binds m y = m y
 | [], _, _ => rfl
 | (n, v) :: r, m, h => by
  unfold bindC
  refine rwG (bindC_not fun p hp => h p (mem_cons_of_mem _ hp)) ?_
  split
  ·rfl
  ·exact if_neg (Ne.symm (h _ mem_cons_self))
theorem bindL_mem {kindOf : Str -> Option NameKind} (hk : kindOf y = some .local) : ∀ {binds : List (Str × Value)} {m : Str -> Option Value}, (binds.map (·.1)).Nodup -> (y, v) ∈ binds -> bindL kindOf binds m y = some v
 | (n, u) :: r, m, hnd, h => by
  unfold bindL
  rw [map_cons, nodup_cons] at hnd
  rcases mem_cons.mp h with e | e
  ·cases e
   refine rwG (bindL_not fun p hp q => hnd.1 (mem_map.mpr ⟨p, hp, q⟩)) (rwG (if_pos hk) ?_)
   simp
  ·exact bindL_mem hk hnd.2 e
theorem bindC_mem {kindOf : Str -> Option NameKind} (hk : kindOf y ≠ some .local) : ∀ {binds : List (Str × Value)} {m : Str -> Option Value}, (binds.map (·.1)).Nodup -> (y, v) ∈ binds -> bindC kindOf binds m y = some v
 | (n, u) :: r, m, hnd, h => by
  unfold bindC
  rw [map_cons, nodup_cons] at hnd
  rcases mem_cons.mp h with e | e
  ·cases e
   refine rwG (bindC_not fun p hp q => hnd.1 (mem_map.mpr ⟨p, hp, q⟩)) (rwG (if_neg hk) ?_)
   simp
  ·exact bindC_mem hk hnd.2 e
structure FnAt (hT : Heap) (a : Addr) (fd : FuncData) (body : List Stmt) (ps : List String) : Prop where
 at_ : ∃ o, hT.get? a = some o /\ o.data = .func fd
 code : hT.CodeRec fd.code fd.qualname
 body : fd.body = .stmts body
 clo : fd.closure = []
 glob : fd.globals = mainGlobals
 blt : fd.builtins = builtinsNs
 co : fd.scope.isCoroutine = false
 gen : fd.scope.isGenerator = false
 kind : fd.scope.kind = .function
 nofree : ∀ y ∈ fd.scope.names, y.2 ≠ .free
 binds : ∀ vs : List Value, vs.length = ps.length -> bindArgs fd ⟨vs, []⟩ = pure ((ps.map ofString).zip vs)
 nodup : ps.Nodup
 kinds : ∀ p ∈ ps, fd.scope.names.lookup (ofString p) = some .local \/ fd.scope.names.lookup (ofString p) = some .cell
theorem zip_mem : ∀ {ps : List String} {vs : List α} {x : String} {v : α}, (x, v) ∈ ps.zip vs -> x ∈ ps
 | _ :: _, _ :: _, _, _, h => by
  rw [zip_cons_cons] at h
  rcases mem_cons.mp h with e | e
  ·injection e with e; subst e; exact mem_cons_self
  ·exact mem_cons_of_mem _ (zip_mem e)
theorem zip_both : ∀ {ps : List String} {es : List Ent} {vs : List Value} {x : String} {e : Ent}, ps.Nodup -> es.length = vs.length -> (ps.zip es).lookup x = some e -> ∃ (v : Value) (i : Nat), (x, v) ∈ ps.zip vs /\ es[i]? = some e /\ vs[i]? = some v /\ ps[i]? = some x
 | [], _, _, _, _, _, _, h => by simp at h
 | _ :: _, [], _, _, _, _, _, h => by simp at h
 | p :: ps, e' :: es, [], _, _, _, hl, _ => by simp at hl
 | p :: ps, e' :: es, v :: vs, x, e, hnd, hl, h => by
  rw [zip_cons_cons, lookup_cons] at h
  cases hb : x == p with
  | true =>
   rw [hb] at h
   obtain rfl := osi h
   obtain rfl := beq_iff_eq.mp hb
   exact ⟨v, 0, by simp, rfl, rfl, rfl⟩
  | false =>
   rw [hb] at h
   obtain ⟨u, i, a, b, d, f⟩ := zip_both (nodup_cons.mp hnd).2 (by simpa using hl) h
   exact ⟨u, i + 1, by refine rwG zip_cons_cons ?_; exact mem_cons_of_mem _ a, b, d, f⟩
theorem map_zip : ∀ {ps : List String} {vs : List Value}, (ps.map ofString).zip vs = (ps.zip vs).map fun t => (ofString t.1, t.2)
 | [], _ => by simp
 | _ :: _, [] => by simp
 | p :: ps, v :: vs => by simp [map_zip (ps := ps) (vs := vs)]
theorem nodup_strs : ∀ {ps : List String} {vs : List Value}, ps.Nodup -> (((ps.map ofString).zip vs).map (·.1)).Nodup
 | [], _, _ => by simp
 | _ :: _, [], _ => by simp
 | p :: ps, v :: vs, h => by
  rw [map_cons, zip_cons_cons, map_cons, nodup_cons]
  refine ⟨fun q => ?_, nodup_strs (nodup_cons.mp h).2⟩
  refine xEA (mem_map.mp q) fun z1q hm e => ?_; obtain ⟨n, u⟩ := z1q
  rw [map_zip] at hm
  refine xEA (mem_map.mp hm) fun z1q hm' e' => ?_; obtain ⟨n', u'⟩ := z1q
  injection e' with e'; subst e'
  dsimp only at e
  have := ofString_inj e
  subst this
  exact (nodup_cons.mp h).1 (zip_mem hm')
theorem enter_user {a : Addr} {s : Shared} {κ : String -> Addr} {R : Result -> Shared -> Prop} (F : FnAt hT a fd body ps) (hlim : hT.NoLimit) (hroom : A.depth < recursionLimit)
  (O : Ok hT X s) (hX₀ : ∀ a, X₀ a -> X a) (hle : es.length = ps.length) (hlv : vs.length = ps.length)
  (hE : ∀ (i : Nat) (p : String) (e : Ent) (v : Value), ps[i]? = some p -> es[i]? = some e -> vs[i]? = some v -> EntRd w.params s.heap X e v (κ p))
  (hinj : ∀ x y d d', (ps.zip es).lookup x = some (.own d) -> (ps.zip es).lookup y = some (.own d') -> κ x = κ y -> x = y) (h0 : ∀ x d, (ps.zip es).lookup x = some (.own d) -> ¬ X₀ (κ x))
  (h : ∀ s₁ X', Keeps s s₁ -> St w.params hT (callEnvC fd s.heap.objs.size a) X₀ X' (ps.zip es) s₁.heap -> (∀ b, X' b -> X b \/ s.heap.get? b = none) -> (∀ b, X b -> X' b) -> (∀ (i : Nat) (p : String) (v : Value), ps[i]? = some p -> vs[i]? = some v -> SelfAt (callEnvC fd s.heap.objs.size a) s₁.heap p v) ->
   wpAny (model prog w) (A.deeper (callEnvC fd s.heap.objs.size a)) (execs body (callEnvC fd s.heap.objs.size a)) (fun f s' => R (.ok (.ret (match f with | .ret v => v | _ => .none))) s')
    (fun e s' => wpAny (model prog w) (A.deeper (callEnvC fd s.heap.objs.size a)) (leaving (callEnvC fd s.heap.objs.size a) e) (fun _ s'' => R (.error e) s'') (fun e' s'' => R (.error e') s'') s') s₁) :
  codeAny (model prog w) A (.call (.ref a) ⟨vs, []⟩) R s := by
 refine xEA F.at_ fun o ho hd => ?_
 have hb := F.binds vs hlv
 refine codeAny_call_cells hroom (O.base a o ho) hd (hlim.keeps O.base) (F.code.keeps O.base) F.body hb F.clo (fun x hx => ?_) (fun s₁ I => ?_) F.co F.gen F.kind
 ·rw [map_zip] at hx
  apply xEAq2R (mem_map.mp hx); intro z1q hm; obtain ⟨n, u⟩ := z1q
  rcases F.kinds n (zip_mem hm) with q | q
  ·exact .inl q
  ·exact .inr ⟨q, cellsFrom_some _ _ _ (.inl q)⟩
 ·generalize hL : s.heap.objs.size = L at *
  have hLs : ∀ b : Nat, L <= b -> s.heap.get? b = none := fun b hb => by
   cases q : s.heap.get? b with
   | none => rfl
   | some o =>
    have : @LT.lt Nat _ b L := hL ▸ Heap.lt_size q
    lia
  have hLn : s.heap.get? L = none := hLs L (Nat.le_refl _)
  have hcn : ∀ n q, (callEnvC fd L a).cells.lookup n = some q -> s.heap.get? q = none /\ q ≠ L := fun n q e => by
   have h1 : @LT.lt Nat _ L q := I.above n q (mem_of_lookup e)
   exact ⟨hLs q (by lia), fun z => by subst z; lia⟩
  have keep := I.toInCall.keep
  have kk : Keeps s s₁ := by
   refine xEE I.toInCall.same fun H t z1q => ?_; obtain rfl := z1q
   exact ⟨H, t, rfl, keep⟩
  have nX : ∀ {b}, s.heap.get? b = none -> ¬ X b := fun e x => by
   refine xE (O.live _ x) fun o q => ?_
   exact clash e q
  let X' : Addr -> Prop := fun b => X b \/ b = L \/ ∃ n, (callEnvC fd L a).cells.lookup n = some b
  have X'o : ∀ b o, s.heap.get? b = some o -> X' b -> X b := fun b o e x => by
   rcases x with x | x | ⟨n, x⟩
   ·exact x
   ·rw [x] at e; exact clash hLn e
   ·exact clash ((hcn n b x).1) e
  have hT0 : ∀ b, s.heap.get? b = none -> hT.get? b = none := fun b e => by
   cases q : hT.get? b with
   | none => rfl
   | some o => exact clash e (O.base b o q)
  refine h s₁ X' kk ⟨fun b o e => keep b o (O.base b o e), fun b x => ?_, fun b x => ?_, fun b x => .inl (hX₀ b x), F.kind, F.glob, F.blt, .inr (.inl rfl), fun x => nX hLn (hX₀ _ x), fun n q e x => nX (hcn n q e).1 (hX₀ _ x), fun n q => ?_, fun n q e => ⟨.inr (.inr ⟨n, e⟩), (hcn n q e).2, _, I.cell n q e⟩,
   fun n n' q e e' => name_of_addr I.apart (mem_of_lookup e) (mem_of_lookup e'), _, κ, I.toInCall.ns, fun x e q => ?_, hinj, fun x d q => ?_⟩ (fun b x => ?_) (fun b x => .inl x) (fun i x v e3 e2 => ?_)
  ·rcases x with x | x | ⟨n, x⟩
   ·exact O.off b x
   ·refine rwG x ?_; exact hT0 L hLn
   ·exact hT0 b (hcn n b x).1
  ·rcases x with x | x | ⟨n, x⟩
   ·obtain ⟨o, e⟩ := O.live b x; exact ⟨o, keep b o e⟩
   ·refine rwG x ?_; obtain ⟨o, _, _, e, _⟩ := I.toInCall.ns; exact ⟨o, e⟩
   ·obtain ⟨o, e, _⟩ := I.cell n b x; exact ⟨o, e⟩
  ·rcases q with q | q
   ·exact Option.isSome_iff_exists.mp (cellsFrom_some _ _ _ (.inl q))
   ·exact absurd rfl (F.nofree _ (mem_of_lookup q))
  ·refine xEEAAA (zip_both F.nodup (hle.trans hlv.symm) q) fun v i hm e1 e2 e3 => ?_
   have hmb : (ofString x, v) ∈ (ps.map ofString).zip vs := by refine rwG map_zip ?_; exact mem_map.mpr ⟨_, hm, rfl⟩
   have hnd := nodup_strs (vs := vs) F.nodup
   refine ⟨v, ?_, ?_⟩
   ·rcases F.kinds x (zip_mem hm) with kd | kd
    ·exact .inl ⟨kd, bindL_mem kd hnd hmb⟩
    ·refine xE (Option.isSome_iff_exists.mp (cellsFrom_some fd.scope.names (L + 1) [] (.inl kd))) fun q' hq' => ?_
     refine .inr ⟨.inl kd, q', hq', ?_⟩
     have := I.cell _ q' hq'
     rw [bindC_mem (by refine rwG (show (callEnvC fd L a).kindOf (ofString x) = some .cell from kd) ?_; decide) hnd hmb] at this
     exact this
   ·have her := hE i x e v e3 e1 e2
    cases e with
    | v d => exact Rd.move (fun b o _ e => keep b o e) X'o her
    | own d => exact OwnRd.move her (fun _ e => keep _ _ e) (.inl (OwnRd.root her)) (fun b o _ e => keep b o e) X'o
  ·refine xEEAAA (zip_both F.nodup (hle.trans hlv.symm) q) fun v i hm e1 e2 e3 => ?_
   have her : OwnRd _ _ _ _ _ _ := hE i x _ v e3 e1 e2
   refine xE (OwnRd.live her) fun ob e => ?_
   refine ⟨h0 x d q, fun z => ?_, fun n q' e' z => ?_⟩
   ·rw [z] at e; rw [show s.heap.get? (callEnvC fd L a).locals = none from hLn] at e; injection e
   ·rw [z] at e; exact clash ((hcn n q' e').1) e
  ·rcases x with x | x | ⟨n, x⟩
   ·exact .inl x
   ·refine rwG x ?_; exact .inr hLn
   ·exact .inr (hcn n b x).1
  ·have hm : (x, v) ∈ ps.zip vs := List.mem_of_getElem? (i := i) (by rw [List.getElem?_zip_eq_some]; exact ⟨e3, e2⟩)
   have hmb : (ofString x, v) ∈ (ps.map ofString).zip vs := by refine rwG map_zip ?_; exact mem_map.mpr ⟨_, hm, rfl⟩
   have hnd := nodup_strs (vs := vs) F.nodup
   refine ⟨_, I.toInCall.ns, ?_⟩
   rcases F.kinds x (zip_mem hm) with kd | kd
   ·exact .inl ⟨kd, bindL_mem kd hnd hmb⟩
   ·refine xE (Option.isSome_iff_exists.mp (cellsFrom_some fd.scope.names (L + 1) [] (.inl kd))) fun q' hq' => ?_
    refine .inr ⟨.inl kd, q', hq', ?_⟩
    have := I.cell _ q' hq'
    rw [bindC_mem (by refine rwG (show (callEnvC fd L a).kindOf (ofString x) = some .cell from kd) ?_; decide) hnd hmb] at this
    exact this
theorem SelfAt.uniq (a : SelfAt env h y v) (b : SelfAt env h y v') : v = v' := by
 refine xEA a fun m hn hva => ?_; (try clear a)
 refine xEA b fun m' hn' hvb => ?_; (try clear b)
 have e : m' = m := by
  refine xEEEAAA hn fun o es ep e1 e2 _ e3 => ?_; (try clear hn)
  refine xEEEAAA hn' fun o' es' ep' f1 f2 _ f3 => ?_; (try clear hn')
  rw [e1] at f1; cases f1
  rw [e2] at f2; cases f2
  funext z; rw [<- e3, <- f3]
 subst e
 rcases hva with ⟨k1, m1⟩ | ⟨k1, c1, l1, i1⟩ <;> rcases hvb with ⟨k2, m2⟩ | ⟨k2, c2, l2, i2⟩
 ·rw [m1] at m2; exact osi m2
 ·rw [k1] at k2; rcases k2 with q | q <;> cases q
 ·rw [k2] at k1; rcases k1 with q | q <;> cases q
 ·rw [l1] at l2
  obtain rfl := osi l2
  refine xEA i1 fun o e1 d1 => ?_; (try clear i1)
  refine xEA i2 fun o' e2 d2 => ?_; (try clear i2)
  rw [e1] at e2
  obtain rfl := osi e2
  rw [d1] at d2
  cases d2
  rfl
theorem St.own_val (S : St P hT env X₀ X ρ h) (hl : ρ.lookup x = some (.own d)) (hs : SelfAt env h x v) : ∃ r, OwnRd P h X d v r /\ ¬ X₀ r := by
 refine xEEAAA S.vars fun m κ hn hv hi ho => ?_
 refine xEA (hv x _ hl) fun v' hva hr => ?_
 obtain rfl := hs.uniq ⟨m, hn, hva⟩
 exact ⟨_, hr, (ho x d hl).1⟩
noncomputable def retK (K : D -> Prop) : Fl -> Prop
 | .ret d => K d
 | .next => K .none
 | .brk => False
theorem Rds.at_ : ∀ {ds : List D} {vs : List Value} {i : Nat} {d : D} {v : Value}, Rds P h X ds vs -> ds[i]? = some d -> vs[i]? = some v -> Rd P h X d v := fun {ds vs i d v} r hd hv => by
 refine xEA (r.get hd) fun v' e r' => ?_
 rw [hv] at e; obtain rfl := osi e; exact r'
theorem zip_v {ps : List String} {ds : List D} (h : (ps.zip (ds.map Ent.v)).lookup x = some (.own d)) : False := by
 induction ps generalizing ds with
 | nil => simp at h
 | cons p ps ih =>
  cases ds with
  | nil => simp at h
  | cons e ds =>
   rw [map_cons, zip_cons_cons, lookup_cons] at h
   cases hb : x == p with
   | true => rw [hb] at h; cases h
   | false => rw [hb] at h; exact ih h
theorem call_user {r : Nat} {a : Addr} {X : Addr -> Prop} {s : Shared} {K : D -> Prop} {core : CB} (hC : ∀ A', Room r A' -> CxOK prog w hT c A') (hA : Room (r + 1) A) (F : FnAt hT a fd body ps) (hlim : hT.NoLimit)
  (hm : mB fd.scope.names core body = true) (O : Ok hT X s) (hl : ds.length = ps.length) (hr : Rds w.params s.heap X ds vs) (hw : exsW c core (ps.zip (ds.map Ent.v)) fun fl _ => retK K fl) :
  wpAny (model prog w) A (call (.ref a) vs) (Post w.params X s K) FF s := by
 refine wpAny_call (enter_user (κ := fun _ => 0) (X₀ := X) (es := ds.map Ent.v) F hlim (by have := hA.depth; lia) O (fun _ x => x) (by rw [length_map, hl]) (by exact rwG (Eq.symm hr.length) (rwG hl rfl)) (fun i p e v _ he hv => ?_) (fun x y d d' q => (zip_v q).elim) (fun x d q => (zip_v q).elim) fun s₁ X' k S g _ _ => ?_)
 ·rw [List.getElem?_map] at he
  cases q : ds[i]? with
  | none => rw [q] at he; injection he
  | some d =>
   rw [q] at he
   obtain rfl := osi he
   exact hr.at_ q hv
 ·refine wpAny_mono (blA (hC _ (hA.deeper _)) core _ body _ _ X X' s₁ _ hm rfl S hw) (fun fl s' q => ?_) (fun _ _ f => f.elim)
  refine xEEEAAAA q fun fl' ρ' X'' hK S'' hf kb g' => ?_; (try clear q)
  have kk : Keeps s s' := by
   refine xEEA k fun H t z1q _ => ?_; clear k; rename_i k; obtain rfl := z1q
   refine xEEAA kb fun H' t' z1q _ _ => ?_; clear kb; rename_i kb _; obtain rfl := z1q
   refine ⟨H', t', rfl, fun b o e => kb b o ?_ (k b o e)⟩
   by_cases hx : X b
   ·exact .inr hx
   ·refine .inl fun q => ?_
    rcases g b q with q | q
    ·exact hx q
    ·exact clash q e
  cases fl' with
  | next =>
   cases fl <;> first | exact hf.elim | skip
   exact ⟨kk, .none, hK, .none⟩
  | brk => exact hK.elim
  | ret d =>
   cases fl <;> first | exact hf.elim | skip
   exact ⟨kk, d, hK, Rd.less hf S''.sub⟩
end
section
variable {prog : Program} {w : World} {hT : Heap} {A : Around}
theorem fnl (h : ∀ ds, d ≠ .list ds) : Fresh s v d := fun ds e => (h ds e).elim
theorem get_size (h : Heap) : h.get? h.objs.size = none := by
 cases q : h.get? h.objs.size with
 | none => rfl
 | some o => exact absurd (Heap.lt_size q) (Nat.lt_irrefl _)
theorem fnew : Fresh s (.ref s.heap.objs.size) d := fun _ _ a e => by injection e with e; subst e; exact get_size _
theorem made_str {K : D -> Prop} (hl : x.length <= sizeLine) (h : K (.str x)) : (Made.str x).post (PostF P X s K) s := ⟨hl, ktok s _, _, h, .str _ _, fnl (fun _ e => nomatch e)⟩
theorem made_old {K : D -> Prop} (h : K (.str x)) : (Made.val (.str x t)).post (PostF P X s K) s := ⟨kr s, _, h, .str _ _, fnl (fun _ e => nomatch e)⟩
theorem made_app {K : D -> Prop} (hl : x.length + y.length <= sizeLine) (h : K (.str (x ++ y))) : (if x.length == 0 then Made.val (.str y u) else if y.length == 0 then Made.val (.str x t) else Made.str (x ++ y)).post (PostF P X s K) s := by
 split
 ·rename_i h0
  have : x ++ y = y := by
   obtain ⟨⟨l⟩⟩ := x
   cases l with
   | nil => obtain ⟨l'⟩ := y; show Str.mk (#[] ++ l') = _; simp
   | cons a b => simp [Str.length] at h0
  exact made_old (this ▸ h)
 ·split
  ·rename_i h0
   have : x ++ y = x := by
    obtain ⟨⟨l⟩⟩ := y
    cases l with
    | nil => obtain ⟨l'⟩ := x; show Str.mk (l' ++ #[]) = _; simp
    | cons a b => simp [Str.length] at h0
   exact made_old (this ▸ h)
  ·refine made_str ?_ h
   have : (x ++ y).length = x.length + y.length := by
    obtain ⟨l⟩ := x; obtain ⟨l'⟩ := y
    show (l ++ l').size = _
    refine rwG Array.size_append ?_; rfl
   lia
noncomputable def smallB (i : Int) : Bool := Nat.ble i.natAbs 1073741823
theorem small_of (h : smallB i = true) : -(2 ^ 30) < i /\ i < 2 ^ 30 := by
 have := Nat.le_of_ble_eq_true h
 lia
theorem of_small (h : -(2 ^ 30) < i /\ i < 2 ^ 30) : smallB i = true := Nat.ble_eq_true_of_le (by lia)
noncomputable def repStr (x : Str) (n : Int) : Str := ⟨(List.replicate n.toNat x.cps.toList).flatten.toArray⟩
noncomputable def ask {α : Type} : Option α -> (α -> Prop) -> Prop
 | some d, k => k d
 | none, _ => False
theorem ask_some : ask (some d) k = k d := rfl
theorem ask_o {C : Prop} (h : ask o k) (c : ∀ x, o = some x -> k x -> C) : C := by
 cases o with
 | none => exact h.elim
 | some x => exact c x rfl h
theorem ask_if [Decidable p] {C : Prop} (h : ask (if p then o else none) k) (c : p -> ask o k -> C) : C := by
 by_cases q : p
 ·rw [if_pos q] at h; exact c q h
 ·rw [if_neg q] at h; exact h.elim
theorem ask_map {C : Prop} (h : ask (o.map f) k) (c : ∀ x, o = some x -> k (f x) -> C) : C := by
 cases o with
 | none => exact h.elim
 | some x => exact c x rfl h
theorem ask_bd {C : Prop} (h : ask (o.bind f) k) (c : ∀ x, o = some x -> ask (f x) k -> C) : C := by
 cases o with
 | none => exact h.elim
 | some x => exact c x rfl h
noncomputable def vI {α : Type} : D -> (Int -> Option α) -> Option α
 | .int i, k => k i
 | _, _ => none
noncomputable def vS {α : Type} : D -> (Str -> Option α) -> Option α
 | .str i, k => k i
 | _, _ => none
noncomputable def vB {α : Type} : D -> (Bool -> Option α) -> Option α
 | .bool i, k => k i
 | _, _ => none
noncomputable def vL {α : Type} : D -> (List D -> Option α) -> Option α
 | .list i, k => k i
 | _, _ => none
noncomputable def vD {α : Type} : D -> (List Str -> List D -> Option α) -> Option α
 | .dict ks ds, k => k ks ds
 | _, _ => none
noncomputable def vAdd {α : Type} : Operator -> Option α -> Option α
 | .Add, k => k
 | _, _ => none
noncomputable def vMul {α : Type} : Operator -> Option α -> Option α
 | .Mult, k => k
 | _, _ => none
section
variable {α : Type} {d : D} {K : α -> Prop} {P : Params} {h : Heap} {X : Addr -> Prop} {v : Value}
@[elab_as_elim] theorem vI_E {C : Value -> Prop} (q : ask (vI d k) K) (r : RdA P h X d v) (c : ∀ i t, ask (k i) K -> C (.int i t)) : C v := by
 cases d <;> first | exact q.elim | skip
 exact (r.flat rfl).intE fun t => c _ t q
@[elab_as_elim] theorem vS_E {C : Value -> Prop} (q : ask (vS d k) K) (r : RdA P h X d v) (c : ∀ i t, ask (k i) K -> C (.str i t)) : C v := by
 cases d <;> first | exact q.elim | skip
 exact (r.flat rfl).strE fun t => c _ t q
@[elab_as_elim] theorem vB_E {C : Value -> Prop} (q : ask (vB d k) K) (r : RdA P h X d v) (c : ∀ i, ask (k i) K -> C (.bool i)) : C v := by
 cases d <;> first | exact q.elim | skip
 exact (r.flat rfl).boolE (c _ q)
@[elab_as_elim] theorem vL_E {C : Value -> Prop} (q : ask (vL d k) K) (r : RdA P h X d v) (c : ∀ ds a vs n, ask (k ds) K -> h.get? a = some (listOf vs n) -> Rds P h X ds vs.toList -> C (.ref a)) : C v := by
 cases d <;> first | exact q.elim | skip
 exact r.rawE fun a vs n ho hr => c _ a vs n q ho hr
@[elab_as_elim] theorem vD_E {C : Value -> Prop} (q : ask (vD d k) K) (r : RdA P h X d v)
  (c : ∀ ks ds a es n, ask (k ks ds) K -> (a == sysModules) = false -> h.get? a = some (dictOf es n) -> KeysAre P ks es -> Rds P h X ds (es.map (·.val)) -> C (.ref a)) : C v := by
 cases d <;> first | exact q.elim | skip
 exact r.dictE fun a es n hs ho hk hr => c _ _ a es n q hs ho hk hr
@[elab_as_elim] theorem vAdd_E {C : Operator -> Prop} (q : ask (vAdd op o) K) (c : ask o K -> C .Add) : C op := by
 cases op <;> first | exact q.elim | exact c q
@[elab_as_elim] theorem vMul_E {C : Operator -> Prop} (q : ask (vMul op o) K) (c : ask o K -> C .Mult) : C op := by
 cases op <;> first | exact q.elim | exact c q
end
theorem pfI {K : D -> Prop} (h : K (.int i)) : PostF P X s K (.int i t) { s with toks := n } := ⟨ktok s _, _, h, .int _ _, fnl fun _ e => nomatch e⟩
theorem pI {K : D -> Prop} (h : K (.int i)) : Post P X s K (.int i t) { s with toks := n } := ⟨ktok s _, _, h, .int _ _⟩
theorem pS {K : D -> Prop} (h : K (.str i)) : Post P X s K (.str i t) { s with toks := n } := ⟨ktok s _, _, h, .str _ _⟩
theorem pB {K : D -> Prop} (h : K (.bool i)) : Post P X s K (.bool i) s := ⟨kr s, _, h, .bool _⟩
theorem sz_of {vs : Array Value} (r : Rds P h X ds vs.toList) : vs.size = ds.length := r.length.symm
noncomputable def binI (op : Operator) (a b : Int) : Option D := match op with
 | .Add => some (.int (a + b))
 | .Sub => some (.int (a - b))
 | .Mult => if smallB a then some (.int (a * b)) else none
 | .FloorDiv => if b ≠ 0 /\ smallB b then some (.int (a.fdiv b)) else none
 | .Mod => if b ≠ 0 then some (.int (a.fmod b)) else none
 | .Pow => if smallB a /\ 0 <= b /\ b <= 1000 then some (.int (a ^ b.toNat)) else none
 | _ => none
noncomputable def addS (op : Operator) (a b : Str) : Option D := vAdd op (if a.length + b.length <= sizeLine then some (.str (a ++ b)) else none)
noncomputable def binD (op : Operator) (a b : D) : Option D := match a with
 | .int a => vI b (binI op a)
 | .str a => (match b with
  | .str b => addS op a b
  | .int n => vMul op (if a.length = 1 /\ n < 1000 /\ -1000 < n then some (.str (repStr a n)) else none)
  | _ => none)
 | .list a => (match b with
  | .list b => vAdd op (if a.length + b.length <= sizeLine then some (.list (a ++ b)) else none)
  | .int n => vMul op (if a.length * n.toNat <= 2 ^ 24 /\ smallB n then some (.list (List.replicate n.toNat a).flatten) else none)
  | _ => none)
 | _ => none
theorem bits_small (h : smallB a = true) : Builtin.Int.intBits a <= 64 := by
 have h := small_of h
 unfold Builtin.Int.intBits
 split
 ·decide
 ·have h1 : a.natAbs < 2 ^ 30 := by lia
  have h2 : a.natAbs ≠ 0 := by
   intro q
   rename_i h0
   exact h0 (by simpa using q)
  have := (Nat.log2_lt h2).mpr h1
  lia
theorem foldl_app (xs : List (Array α)) : ∀ acc : Array α, (xs.foldl (·++ ·) acc).toList = acc.toList ++ (xs.map (·.toList)).flatten := by
 induction xs with
 | nil => intro acc; simp
 | cons x r ih => intro acc; rw [foldl_cons, ih]; simp
theorem rep_small (h : a.length = 1 /\ n < 1000 /\ -1000 < n) : (repStr a n).length <= sizeLine := by
 unfold repStr Str.length
 simp only [size_toArray, List.length_flatten, List.map_replicate, List.sum_replicate_nat]
 refine rwG (show a.cps.toList.length = 1 from h.1) ?_
 simp only [sizeLine]
 lia
theorem rep_fold (a : Str) (n : Nat) : (⟨(List.replicate n a.cps).foldl (·++ ·) #[]⟩ : Str) = ⟨(List.replicate n a.cps.toList).flatten.toArray⟩ := by
 congr 1
 apply Array.ext'
 rw [foldl_app, List.map_replicate]
 simp
theorem rep_rds (hr : Rds P h X a vs) (m : Nat) : Rds P h X (List.replicate m a).flatten (List.replicate m vs).flatten := by
 induction m with
 | zero => exact .nil
 | succ m ih => exact hr.append ih
theorem bin_ok {a b : D} {K : D -> Prop} {X : Addr -> Prop} {s : Shared} (O : Ok hT X s) (hb : ask (binD op a b) K) (ra : RdA w.params s.heap X a va) (rb : Rd w.params s.heap X b vb) :
  wpAny (model prog w) A (binaryOp op va vb) (PostF w.params X s K) FF s := by
 cases a <;> first | exact hb.elim | skip
 ·refine (ra.flat rfl).intE fun t => ?_
  refine vI_E hb (.inl rb) fun b u hb => ?_
  cases op <;> first | exact hb.elim | skip
  ·exact P.add_int (pfI hb)
  ·exact P.sub_int (pfI hb)
  ·exact ask_if hb fun h hb => P.mul_int (pfI hb) (.of_left (bits_small h))
  ·exact ask_if hb fun h hb => mod_int' h (pfI hb)
  ·exact ask_if hb fun h hb => pow_int_small h.2.1 (by have := small_of h.1; lia) (by have := small_of h.1; lia) (pfI hb)
  ·exact ask_if hb fun h hb => floordiv_int h.1 (pfI hb) (.inl (PyProof.noPylong_small (by have := small_of h.2; lia)))
 ·rename_i a
  refine (ra.flat rfl).strE fun t => ?_
  cases b <;> first | exact hb.elim | skip
  ·rename_i n
   refine rb.intE fun u => vMul_E hb fun hb => ask_if hb fun h hb => ?_
   refine P.mul_str (by simp only [Bool.or_eq_false_iff, decide_eq_false_iff_not]; lia) (fun h1 _ => ?_) (fun h1 _ => ?_) ?_
   ·refine rwG h.1 ?_
    intro q
    have h3 : (1 : Int) <= (2 ^ 63 - 1) / n := (Int.le_ediv_iff_mul_le (by lia)).mpr (by lia)
    have h4 : ((1 : Nat) : Int) = 1 := rfl
    lia
   ·simp only [Builtin.Str.tooLong, h.1, sizeLine, decide_eq_false_iff_not]
    lia
   ·split
    ·refine made_str (by decide) ?_
     have : repStr a n = Str.empty := by
      unfold repStr
      refine rwG (show n.toNat = 0 by lia) ?_
      rfl
     exact this ▸ hb
    ·split
     ·rename_i h2
      have h3 : n = 1 := by simp only [Bool.or_eq_true, beq_iff_eq, h.1] at h2; lia
      have : repStr a n = a := by
       unfold repStr
       refine rwG h3 ?_
       simp
      exact made_old (this ▸ hb)
     ·rw [rep_fold]
      exact made_str (rep_small h) hb
  ·exact rb.strE fun u => vAdd_E hb fun hb => ask_if hb fun h hb => P.add_str (made_app h hb)
 ·rename_i a
  refine ra.rawE fun l vs k ho hr => ?_
  cases b <;> first | exact hb.elim | skip
  ·rename_i n
   refine rb.intE fun t => vMul_E hb fun hb => ask_if hb fun h hb => ?_
   have h2 := small_of h.2
   have hz := sz_of hr
   refine wpAny_binaryOp_repeat_ref (T := "list") (U := "int") (by decide) ⟨_, ho, rfl⟩ (fun s' => typeIs_int s' n t) noFill_list_mul F.fills_int_mul F.slot_int_rmul repeat_list F.slot_int_index.lookup
    (call_meets F.slot_int_rmul (typeIs_int s n t) F.entry_int_rmul (F.args_int_rmul_2 _ _) (int___rmul___int_list n t l vs k)
     ⟨ho, rfl, ⟨_, ho, rfl⟩, call_meets F.slot_list_mul ⟨_, ho, rfl⟩ F.entry_list_mul (F.args_list_mul_2 _ _)
      (AutoListH.list___mul___list_int_3 l vs k n t (by simp [Builtin.List.listFitsIndex]; lia) (by refine rwG hz ?_; lia) (by simp [Builtin.List.listTooLong, sizeLine]; refine rwG hz ?_; exact h.1))
      ⟨ho, kpush s _, _, hb, .list (n := 0) O.fresh (Heap.get?_push_size _ rfl) ?_, fnew⟩⟩)
   rw [listMul_foldl_if]
   exact (rep_rds hr _).keeps fun _ _ e => Heap.get?_push_of_some _ e
  ·refine rb.listE fun l' vs' n' _ ho' hr' => vAdd_E hb fun hb => ask_if hb fun h hb => ?_
   refine P.add_list ho ho' ⟨kpush s _, _, hb, .list (vs := vs ++ vs') (n := 0) O.fresh (Heap.get?_push_size _ rfl) ?_, fnew⟩ (by refine rwG (sz_of hr) (rwG (sz_of hr') ?_); lia)
   refine rwG Array.toList_append ?_
   exact (hr.append hr').keeps fun _ _ e => Heap.get?_push_of_some _ e
noncomputable def augD (op : Operator) (a b : D) : Option D := match a with
 | .int a => vI b fun b => match op with
  | .Add => some (.int (a + b))
  | .Sub => some (.int (a - b))
  | _ => none
 | .str a => vS b fun b => addS op a b
 | _ => none
theorem PostF.drop {P X s K v s'} (p : PostF P X s K v s') : Post P X s K v s' := ⟨p.1, let ⟨d, a, b, _⟩ := p.2; ⟨d, a, b⟩⟩
theorem aug_ok {a b : D} {K : D -> Prop} {X : Addr -> Prop} {s : Shared} (hb : ask (augD op a b) K) (ra : Rd w.params s.heap X a va) (rb : Rd w.params s.heap X b vb) :
  wpAny (model prog w) A (inplaceOp op va vb) (Post w.params X s K) FF s := by
 refine wpAny_mono (Q := PostF w.params X s K) ?_ (fun _ _ q => q.drop) (fun _ _ f => f)
 cases a <;> first | exact hb.elim | skip
 ·refine ra.intE fun t => vI_E hb (.inl rb) fun b u hb => ?_
  cases op <;> first | exact hb.elim | skip
  ·exact P.iadd_int (pfI hb)
  ·exact P.isub_int (pfI hb)
 ·exact ra.strE fun t => vS_E hb (.inl rb) fun b u hb => vAdd_E hb fun hb => ask_if hb fun h hb => P.iadd_str (made_app h hb)
mutual
noncomputable def D.py : D -> Option PyData
 | .none => some .none
 | .bool b => some (.bool b)
 | .int i => some (.int i)
 | .str s => some (.str s)
 | .list ds => (D.pys ds).map .list
 | .tup ds => (D.pys ds).map .tuple
 | .val _ | .inst .. | .dict .. => Option.none
noncomputable def D.pys : List D -> Option (List PyData)
 | [] => some []
 | d :: ds => d.py.bind fun x => (D.pys ds).map (x :: ·)
end
theorem Rd.reads (r : Rd P h X d v) : ∀ p, d.py = some p -> ∃ as, Reads h v p as := by
 refine Rd.rec (motive_1 := fun d v _ => ∀ p, d.py = some p -> ∃ as, Reads h v p as) (motive_2 := fun ds vs _ => ∀ ps, D.pys ds = some ps -> ∃ as, ReadsAll h vs ps as) ?_ ?_ ?_ ?_ ?_ ?_ ?_ ?_ ?_ ?_ ?_ r
 ·exact fun p e => osi e ▸ ⟨_, .none⟩
 ·exact fun b p e => osi e ▸ ⟨_, .bool _⟩
 ·exact fun i t p e => osi e ▸ ⟨_, .int _ _⟩
 ·exact fun i t p e => osi e ▸ ⟨_, .str _ _⟩
 ·exact fun v p e => nomatch e
 ·intro a vs n ds hx ho _ ih p e
  apply xEAq2R (Option.map_eq_some_iff.mp e); intro q e1
  exact xE (ih q e1) fun as r => ⟨_, .list ho rfl rfl r⟩
 ·intro a vs n ds hx ho _ ih p e
  apply xEAq2R (Option.map_eq_some_iff.mp e); intro q e1
  exact xE (ih q e1) fun as r => ⟨_, .tuple ho rfl rfl r⟩
 ·exact fun hx hdx ho hdo hks _ ih p e => nomatch e
 ·exact fun hs hx ho hks _ ih p e => nomatch e
 ·exact fun ps e => osi e ▸ ⟨_, .nil⟩
 ·intro d v ds vs _ _ i1 i2 ps e
  refine xEA (Option.bind_eq_some_iff.mp e) fun x h1 e => ?_
  apply xEAq2R (Option.map_eq_some_iff.mp e); intro xs h2
  exact xE (i1 _ h1) fun as r1 => xE (i2 _ h2) fun bs r2 => ⟨_, .cons r1 r2⟩
noncomputable def eqD (a b : D) : Option Bool := a.py.bind fun p => b.py.bind fun q => if SeqAt.shaped p = true /\ SeqAt.shaped q = true then some (PyData.eqv p q) else none
noncomputable def intsOf : List D -> Option (List Int)
 | [] => some []
 | d :: r => vI d fun i => (intsOf r).map (i :: ·)
theorem Rds.items : ∀ {vs : List Value} {xs : List Int}, Rds P h X ds vs -> intsOf ds = some xs -> ∃ ys : List (Int × Tok), vs = ys.map (fun p => Value.int p.1 p.2) /\ ys.map (·.1) = xs := by
 induction ds with
 | nil => exact fun r e => r.nilE ⟨[], rfl, osi e⟩
 | cons d ds ih =>
  refine fun {vs xs} r e => r.consE fun v vs r rs => ?_
  have e' : ask (intsOf (d :: ds)) (·= xs) := by refine rwG e ?_; exact rfl
  exact vI_E e' (.inl r) fun i t e => ask_map e fun ys e1 e => xEA (ih rs e1) fun zs h1 h2 => ⟨(i, t) :: zs, congrArg _ h1, e ▸ congrArg _ h2⟩
noncomputable def gtL : List Int -> List Int -> Bool
 | [], _ => false
 | _ :: _, [] => true
 | x :: xs, y :: ys => if x = y then gtL xs ys else decide (x > y)
noncomputable def IntsAt (its : Array Value) (xs : List Int) : Prop := its.size = xs.length /\ ∀ i (h : i < its.size) (h' : i < xs.length), ∃ t, its[i] = .int xs[i] t
theorem Rds.intsA (r : Rds P h X ds vs.toList) (e : intsOf ds = some xs) : IntsAt vs xs := by
 obtain ⟨vs⟩ := vs
 obtain ⟨ys, rfl, rfl⟩ := r.items e
 exact ⟨by rw [size_toArray, length_map, length_map], fun i h h' => ⟨_, by rw [List.getElem_toArray, List.getElem_map, List.getElem_map]⟩⟩
open AutoSeq1 (wpAny_loadPart') in
open MeetsSeq MeetsSeq2 MeetsSeq3 SeqRoads2 in
theorem gt_loop (l b : Addr) (items items2 : Array Value) (n n2 : Nat) (xs ys : List Int) (hx : IntsAt items xs) (hy : IntsAt items2 ys) (k : Nat) :
  ∀ i : Nat, items.size - i = k -> i <= items.size -> i <= items2.size -> Meets (Builtin.«list.__eq__.loop» ⟨[.ref l, .ref b, rawInt i, rawInt 4], []⟩)
   (fun _ R s => s.heap.get? l = some { cls := .type "list", dict := none, data := .seq items n, slots := #[] } /\ s.heap.get? b = some { cls := .type "list", dict := none, data := .seq items2 n2, slots := #[] } /\
    R (.ok (.ret (.bool (gtL (xs.drop i) (ys.drop i) )))) s) := by
 induction k with
 | zero =>
  intro i hk h1 h2 prog w A R s h
  obtain ⟨hp, g, d, tk, os⟩ := s; obtain ⟨hl, hb, h⟩ := h
  wp_walk using wpAny_loadPart' hl, wpAny_loadPart' hb
  have hi1 : items[((i : Nat) : Int).toNat]? = none := by simp; lia
  refine rwG hi1 ?_
  wp_walk using wpAny_loadPart' hl, wpAny_loadPart' hb
  show R (.ok (.ret (.bool (decide (items.size > items2.size))))) _
  have hd : xs.drop i = [] := by have := hx.1; simp; lia
  rw [hd] at h
  have : decide (items.size > items2.size) = false := by simp; lia
  refine rwG this ?_
  exact h
 | succ k ih =>
  intro i hk h1 h2 prog w A R s h
  obtain ⟨hp, g, d, tk, os⟩ := s; obtain ⟨hl, hb, h⟩ := h
  wp_walk using wpAny_loadPart' hl, wpAny_loadPart' hb
  have hlt : i < items.size := by lia
  have hltx : i < xs.length := by have := hx.1; lia
  have hi1 : items[((i : Nat) : Int).toNat]? = some items[i] := by simp [hlt]
  refine rwG hi1 ?_
  have hdx : xs.drop i = xs[i] :: xs.drop (i + 1) := List.drop_eq_getElem_cons hltx
  rw [hdx] at h
  by_cases hlt2 : i < items2.size
  ·have hlty : i < ys.length := by have := hy.1; lia
   have hi2 : items2[((i : Nat) : Int).toNat]? = some items2[i] := by simp [hlt2]
   refine rwG hi2 ?_
   have hdy : ys.drop i = ys[i] :: ys.drop (i + 1) := List.drop_eq_getElem_cons hlty
   rw [hdy] at h
   refine xE (hx.2 i hlt hltx) fun t et => ?_
   refine xE (hy.2 i hlt2 hlty) fun u eu => ?_
   refine rwG et (rwG eu ?_)
   refine wpAny_bind (EqGives.int _ _ _ _ prog w _ _ _ _ ?_)
   have hc : ((i : Int) + 1) = ((i + 1 : Nat) : Int) := by push_cast; rfl
   by_cases he : xs[i] = ys[i]
   ·rw [gtL, if_pos he] at h
    have hb' : (xs[i] == ys[i]) = true := by simpa using he
    refine rwG hb' ?_
    wp_walk
    refine rwG hc ?_
    exact ⟨plainId_quiet plain_eq_loop _, codeAny_builtin entry_eq_loop (by
     refine rwG (Around.under_plainId plain_eq_loop _) ?_
     exact ih (i + 1) (by lia) (by lia) (by lia) prog w A R _ ⟨hl, hb, h⟩)⟩
   ·rw [gtL, if_neg he] at h
    have hb' : (xs[i] == ys[i]) = false := by simpa using he
    refine rwG hb' ?_
    wp_walk using wpAny_loadPart' hl, wpAny_loadPart' hb
    refine rwG hi1 (rwG hi2 (rwG et (rwG eu ?_)))
    refine wpAny_bind (show wpAny _ _ (richCompare .Gt _ _) _ _ _ from P.gt_int ?_)
    exact wpAny_pure h
  ·have hi2 : items2[((i : Nat) : Int).toNat]? = none := by simp; lia
   refine rwG hi2 ?_
   wp_walk using wpAny_loadPart' hl, wpAny_loadPart' hb
   show R (.ok (.ret (.bool (decide (items.size > items2.size))))) _
   have hd : ys.drop i = [] := by have := hy.1; simp; lia
   rw [hd] at h
   have : decide (items.size > items2.size) = true := by simp; lia
   refine rwG this ?_
   exact h
open AutoSeq1 (wpAny_loadPart') in
open MeetsSeq MeetsSeq2 MeetsSeq3 SeqRoads2 in
theorem list_gt (l b : Addr) (items items2 : Array Value) (n n2 : Nat) (xs ys : List Int) (hx : IntsAt items xs) (hy : IntsAt items2 ys) : Meets (Builtin.«list.__gt__» ⟨[.ref l, .ref b], []⟩)
   (fun _ R s => s.heap.get? l = some { cls := .type "list", dict := none, data := .seq items n, slots := #[] } /\ s.heap.get? b = some { cls := .type "list", dict := none, data := .seq items2 n2, slots := #[] } /\
    R (.ok (.ret (.bool (gtL xs ys)))) s) := by
 intro prog w A R s h
 obtain ⟨hp, g, d, tk, os⟩ := s; obtain ⟨hl, hb, h⟩ := h
 have f3 := AutoSeq1.sub_list_list
 wp_walk using wpAny_loadPart' hl, wpAny_loadPart' hb
 exact ⟨plainId_quiet plain_eq_loop _, codeAny_builtin entry_eq_loop (by
  refine rwG (Around.under_plainId plain_eq_loop _) ?_
  exact gt_loop l b items items2 n n2 xs ys hx hy _ 0 rfl (Nat.zero_le _) (Nat.zero_le _) prog w A R _ ⟨hl, hb, by simpa using h⟩)⟩
noncomputable def inStr (x y : Str) : Bool := !(Builtin.Str.occurrences y x 0 y.length 1).isEmpty
noncomputable def gtO (a b : Option (List Int)) : Option Bool := a.bind fun x => b.map fun y => gtL x y
noncomputable def cmpD (op : CmpOp) (a b : D) : Option Bool := match op with
 | .Eq => (match a with
  | .int a => vI b fun b => some (a == b)
  | .str a => vS b fun b => some (a == b)
  | .list a => eqD (.list a) b
  | .tup a => eqD (.tup a) b
  | _ => none)
 | .NotEq => (match a with
  | .int a => vI b fun b => some (a != b)
  | .list a => (eqD (.list a) b).map (!·)
  | .tup a => (eqD (.tup a) b).map (!·)
  | _ => none)
 | .Lt => vI a fun a => vI b fun b => some (decide (a < b))
 | .LtE => vI a fun a => vI b fun b => some (decide (a <= b))
 | .Gt => (match a with
  | .int a => vI b fun b => some (decide (a > b))
  | .list a => vL b fun b => gtO (intsOf a) (intsOf b)
  | _ => none)
 | .GtE => vI a fun a => vI b fun b => some (decide (a >= b))
 | .Is => vB a fun a => vB b fun b => some (a == b)
 | .IsNot => vB a fun a => vB b fun b => some (!(a == b))
 | .In => (match a with
  | .int a => vL b fun b => (intsOf b).map fun y => y.contains a
  | .str a => (match b with
   | .str b => some (inStr a b)
   | .dict ks _ => some (ks.contains a)
   | _ => none)
  | _ => none)
 | .NotIn => vS a fun a => vD b fun ks _ => some (!ks.contains a)
theorem eqD_E {K : Bool -> Prop} {C : Prop} (h : ask (eqD a b) K) (c : ∀ p q, a.py = some p -> b.py = some q -> SeqAt.shaped p = true -> SeqAt.shaped q = true -> K (PyData.eqv p q) -> C) : C :=
 ask_bd h fun p ha h => ask_bd h fun q hb h => ask_if h fun h1 h => c p q ha hb h1.1 h1.2 h
theorem eqD_some (h1 : a.py = some p) (h2 : b.py = some q) (s1 : SeqAt.shaped p = true) (s2 : SeqAt.shaped q = true) : eqD a b = some (PyData.eqv p q) := by
 unfold eqD
 refine rwG h1 (rwG h2 ?_)
 exact if_pos ⟨s1, s2⟩
theorem eq_dat {K : D -> Prop} {X : Addr -> Prop} (hu : A.units + 100 < cLine) (h : ask (eqD a b) fun q => K (.bool q)) (ra : Rd w.params s.heap X a va) (rb : Rd w.params s.heap X b vb) :
  wpAny (model prog w) A (compareOp .Eq va vb) (Post w.params X s K) FF s :=
 eqD_E h fun p q h1 h2 s1 s2 h => xE (ra.reads _ h1) fun _ r1 => xE (rb.reads _ h2) fun _ r2 => SeqAt.compareEq_shaped r1 r2 s1 s2 (by lia) (pB h)
theorem ne_dat {K : D -> Prop} {X : Addr -> Prop} (hu : A.units + 100 < cLine) (h : ask ((eqD a b).map (!·)) fun q => K (.bool q)) (ra : Rd w.params s.heap X a va) (rb : Rd w.params s.heap X b vb) :
  wpAny (model prog w) A (compareOp .NotEq va vb) (Post w.params X s K) FF s :=
 ask_map h fun _ e h => eqD_E (K := fun q => K (.bool (!q))) (by refine rwG e ?_; exact h) fun p q h1 h2 s1 s2 h => xE (ra.reads _ h1) fun _ r1 => xE (rb.reads _ h2) fun _ r2 => SeqAt.compareNe_shaped r1 r2 s1 s2 (by lia) (pB h)
theorem any_ints (a : Int) : ∀ ys : List (Int × Tok), (ys.map fun p => Value.int p.1 p.2).any (fun y => match y with | .int j _ => j == a | _ => false) = (ys.map (·.1)).contains a
 | [] => rfl
 | y :: ys => by
  exact rwG map_cons (rwG map_cons (rwG any_cons (rwG contains_cons (rwG (any_ints a ys) (rwG Bool.beq_comm rfl)))))
theorem KeysAre.rec' {M : List Str -> List DictEntry -> Prop} (m0 : M [] []) (m1 : ∀ k ks e es t, e.key = .str k t -> e.hash = PyData.keyHash P k -> KeysAre P ks es -> M ks es -> M (k :: ks) (e :: es)) : ∀ {ks : List Str} {es : List DictEntry}, KeysAre P ks es -> M ks es := by
 intro ks
 induction ks with
 | nil =>
  intro es h
  cases es with
  | nil => exact m0
  | cons e es => exact h.elim
 | cons k ks ih =>
  intro es h
  cases es with
  | nil => exact h.elim
  | cons e es => exact h.1.elim fun t h1 => m1 k ks e es t h1 h.2.1 h.2.2 (ih h.2.2)
theorem KeysAre.keysOf {es : List DictEntry} (h : KeysAre w.params ks es) : ∀ e ∈ es, ∃ k, (strKind prog w).is k e.key = true /\ e.hash = (strKind prog w).hash k := by
 refine h.rec' (M := fun ks es => ∀ e ∈ es, ∃ k, (strKind prog w).is k e.key = true /\ e.hash = (strKind prog w).hash k) (fun _ q => nomatch q) fun k ks e es t h1 h2 _ ih e' he => ?_
 rcases mem_cons.mp he with rfl | he
 ·exact ⟨k, by refine rwG h1 ?_; exact strKind_is prog w k t, h2⟩
 ·exact ih e' he
theorem mapOf {h : Heap} (ho : h.get? a = some (dictOf es n)) (hk : KeysAre w.params ks es) : h.MapOf (strKind prog w) a fun k => findBy (strKind prog w).is es.toArray k :=
 ⟨_, es.toArray, n, ho, ⟨rfl, rfl, rfl⟩, rfl, fun e he => hk.keysOf e (by simpa using he), fun _ => rfl⟩
noncomputable def getK (ks : List Str) (ds : List D) (k : Str) : Option D := (ks.zip ds).lookup k
theorem findBy_cons (k : Str) (e : DictEntry) (es : List DictEntry) : findBy (strKind prog w).is (e :: es).toArray k = if (strKind prog w).is k e.key then some e.val else findBy (strKind prog w).is es.toArray k := by
 unfold findBy
 rw [List.find?_toArray, List.find?_toArray, List.find?_cons]
 cases (strKind prog w).is k e.key <;> rfl
theorem find_rd {h : Heap} (k : Str) (hk : KeysAre P ks es) : ∀ {ds : List D}, Rds P h X ds (es.map (·.val)) ->
  (∀ d, getK ks ds k = some d -> ∃ v, findBy (strKind prog w).is es.toArray k = some v /\ Rd P h X d v) /\ (findBy (strKind prog w).is es.toArray k).isSome = ks.contains k := by
 refine hk.rec' (M := fun ks es => ∀ {ds : List D}, Rds P h X ds (es.map (·.val)) ->
  (∀ d, getK ks ds k = some d -> ∃ v, findBy (strKind prog w).is es.toArray k = some v /\ Rd P h X d v) /\ (findBy (strKind prog w).is es.toArray k).isSome = ks.contains k) (fun _ => ⟨(fun d e => nomatch e), rfl⟩) fun k' ks e es t h1 h2 _ ih ds hr => ?_
 cases ds with
 | nil => exact nomatch hr.length
 | cons d ds =>
  refine Rds.consE' hr fun r rs => xA (ih rs) fun i1 i2 => ?_
  rw [findBy_cons, show (strKind prog w).is k e.key = (k' == k) by refine rwG h1 ?_; rfl]
  unfold getK
  refine rwG zip_cons_cons (rwG lookup_cons (rwG contains_cons (rwG (show (k == k') = (k' == k) from Bool.beq_comm) ?_)))
  cases k' == k with
  | true => exact ⟨fun d' e' => ⟨_, rfl, osi e' ▸ r⟩, rfl⟩
  | false => exact ⟨i1, i2⟩
theorem KeysAre.pairs {es : List DictEntry} (h : KeysAre w.params ks es) : Pairs (strKind prog w) es (ks.zip (es.map (·.val))) :=
 h.rec' (M := fun ks es => Pairs (strKind prog w) es (ks.zip (es.map fun x : DictEntry => x.val))) .nil fun k ks e es t h1 _ _ ih => show Pairs (strKind prog w) (e :: es) ((k, e.val) :: ks.zip (es.map fun x : DictEntry => x.val)) from .cons (by refine rwG h1 ?_; exact strKind_is prog w k t) rfl ih
theorem KeysAre.length {ks : List Str} (h : KeysAre P ks es) : ks.length = es.length := h.rec' (M := fun ks es => ks.length = es.length) rfl fun _ _ _ _ _ _ _ _ ih => congrArg Nat.succ ih
theorem pairs_keys (p : Pairs (strKind prog w) es kvs) : (∀ e ∈ es, ∃ k, (strKind prog w).is k e.key = true /\ e.hash = (strKind prog w).hash k) -> KeysAre w.params (kvs.map (·.1)) es /\ es.map (·.val) = kvs.map (·.2) := by
 induction p with
 | nil => exact fun _ => ⟨trivial, rfl⟩
 | @cons e kv _ _ a b r ih =>
  refine fun hk => xA (ih fun e he => hk e (mem_cons_of_mem _ he)) fun i1 i2 => xEA (hk e mem_cons_self) fun k h1 h2 => ?_
  obtain rfl : k = kv.1 := (strKind prog w).inj e.key k kv.1 h1 a
  exact ⟨⟨Value.isStrOf_shape a, h2, i1⟩, by exact rwG map_cons (rwG map_cons (rwG b (rwG i2 rfl)))⟩
theorem zip_fst {l : List α} {l' : List β} (h : l.length = l'.length) : (l.zip l').map (·.1) = l := List.map_fst_zip (Nat.le_of_eq h)
theorem zip_snd {l : List α} {l' : List β} (h : l.length = l'.length) : (l.zip l').map (·.2) = l' := List.map_snd_zip (Nat.le_of_eq h.symm)
theorem dict_of {h : Heap} {ks : List Str} (ho : h.get? a = some (dictOf es n)) (hk : KeysAre w.params ks es) (hn : ks.Nodup) : h.DictOf (strKind prog w) a (ks.zip (es.map (·.val))) :=
 ⟨_, es.toArray, n, ho, ⟨rfl, rfl, rfl⟩, rfl, fun e he => hk.keysOf e (by simpa using he), hk.pairs, by rw [zip_fst (by rw [hk.length, length_map])]; exact hn⟩
theorem pB1 {K : D -> Prop} (h : K (.bool i)) : Post P X s K (.bool i) { s with toks := s.toks + 1 } := ⟨ktok s _, _, h, .bool _⟩
theorem bool_eq (a b : Bool) : (Value.bool a == Value.bool b) = (a == b) := by cases a <;> cases b <;> rfl
theorem cmp_ok {op : CmpOp} {K : D -> Prop} {X : Addr -> Prop} (hu : A.units + 100 < cLine) (hb : ask (cmpD op a b) fun q => K (.bool q)) (ra : Rd w.params s.heap X a va) (rb : Rd w.params s.heap X b vb) :
  wpAny (model prog w) A (compareOp op va vb) (Post w.params X s K) FF s := by
 cases op
 ·cases a <;> first | exact hb.elim | skip
  ·exact ra.intE fun _ => vI_E hb (.inl rb) fun _ _ hb => P.eq_int (pB hb)
  ·exact ra.strE fun _ => vS_E hb (.inl rb) fun _ _ hb => P.eq_str (by rw [SeqAt.str_beq]; exact pB hb)
  ·exact eq_dat hu hb ra rb
  ·exact eq_dat hu hb ra rb
 ·cases a <;> first | exact hb.elim | skip
  ·exact ra.intE fun _ => vI_E hb (.inl rb) fun _ _ hb => P.ne_int (pB hb)
  ·exact ne_dat hu hb ra rb
  ·exact ne_dat hu hb ra rb
 ·exact vI_E hb (.inl ra) fun _ _ hb => vI_E hb (.inl rb) fun _ _ hb => P.lt_int (pB hb)
 ·exact vI_E hb (.inl ra) fun _ _ hb => vI_E hb (.inl rb) fun _ _ hb => P.le_int (pB hb)
 ·cases a <;> first | exact hb.elim | skip
  ·exact ra.intE fun _ => vI_E hb (.inl rb) fun _ _ hb => P.gt_int (pB hb)
  ·refine ra.listE fun l vs n _ ho hr => vL_E hb (.inl rb) fun _ l' vs' n' hb ho' hr' => ask_bd hb fun x h1 hb => ask_map hb fun y h2 hb => ?_
   exact richCompare_meets_room (op := .Gt) ⟨_, ho, rfl⟩ ⟨_, ho', rfl⟩ F.slot_list_gt F.entry_list_gt (F.args_list_gt_2 _ _) (list_gt l l' vs vs' n n' x y (hr.intsA h1) (hr'.intsA h2))
    ⟨ho, ho', show Value.bool _ ≠ Value.notImplemented /\ Post w.params X s K (.bool _) s from ⟨(fun x => nomatch x), pB hb⟩⟩ (by lia)
 ·exact vI_E hb (.inl ra) fun _ _ hb => vI_E hb (.inl rb) fun _ _ hb => P.ge_int (pB hb)
 ·exact vB_E hb (.inl ra) fun _ hb => vB_E hb (.inl rb) fun _ hb => wpAny_is_plain rfl (by rw [bool_eq]; exact pB hb)
 ·exact vB_E hb (.inl ra) fun _ hb => vB_E hb (.inl rb) fun _ hb => wpAny_isNot_plain rfl (by rw [bool_eq]; exact pB hb)
 ·cases a <;> first | exact hb.elim | skip
  ·rename_i i
   refine ra.intE fun t => vL_E hb (.inl rb) fun bs l vs n hb ho hr => ask_map hb fun y h1 hb => ?_
   obtain ⟨vs⟩ := vs
   obtain ⟨ys, rfl, rfl⟩ := hr.items h1
   refine SeqInW.in_listW (fun y => match y with | .int j _ => j == i | _ => false) (fun y hy => ?_) ⟨_, ho, rfl, n, rfl⟩ (by rw [any_toArray, any_ints]; exact pB hb)
   obtain ⟨p, _, rfl⟩ := mem_map.mp (List.mem_toArray.mp hy)
   exact MeetsSeq.EqGives.int _ _ _ _
  ·refine ra.strE fun t => ?_
   cases b <;> first | exact hb.elim | skip
   ·exact rb.strE fun _ => P.in_str (pB hb)
   ·exact rb.dictE fun a es n hs hx ho hk hr => wpAny_in_of (knd := strKind prog w) (strKind_is prog w _ t) hs (mapOf ho hk) (by refine rwG ((find_rd (prog := prog) (w := w) _ hk hr).2) ?_; exact pB1 hb)
 ·exact vS_E hb (.inl ra) fun k t hb => vD_E hb (.inl rb) fun ks ds a es n hb hs ho hk hr => wpAny_notIn_of (knd := strKind prog w) (strKind_is prog w k t) hs (mapOf ho hk) (by refine rwG ((find_rd (prog := prog) (w := w) k hk hr).2) ?_; exact pB1 hb)
noncomputable def atL (ds : List D) (i : Int) : Option D := (seqIndex? i ds.length).bind (ds[·]?)
noncomputable def itemD (a i : D) : Option D := match a with
 | .list ds => vI i fun i => if smallB i then atL ds i else none
 | .tup ds => vI i fun i => if smallB i then atL ds i else none
 | .str x => vI i fun i => if smallB i then ((seqIndex? i x.length).bind (x.cps[·]?)).map fun c => .str ⟨#[c]⟩ else none
 | .dict ks ds => vS i fun k => getK ks ds k
 | _ => none
theorem Rds.atL {vs : Array Value} {K : D -> Prop} {C : Prop} (r : Rds P h X ds vs.toList) (e : ask (atL ds i) K) (c : ∀ k v d, K d -> seqIndex? i vs.size = some k -> vs[k]? = some v -> Rd P h X d v -> C) : C :=
 ask_bd e fun k h1 e => ask_o e fun d h2 e => xEA (r.get h2) fun v h3 h4 => c k v d e (by refine rwG (sz_of r) ?_; exact h1) (Array.getElem?_toList ▸ h3) h4
theorem getItem_list_any (hl : s.heap.IsList l vs) (hs : smallB i = true) (hk : seqIndex? i vs.size = some k) (hx : vs[k]? = some x) (h : Q x s) :
  wpAny (model prog w) A (getItem (.ref l) (.int i t)) Q FF s := by
 have hs := small_of hs
 by_cases h0 : i < 0
 ·have e : seqIndex? i vs.size = if (0 <= i + vs.size && i + vs.size < vs.size) = true then some (i + vs.size).toNat else none := by unfold seqIndex?; simp only [h0, if_true]
  rw [e] at hk
  split at hk
  ·rename_i hj
   simp only [Bool.and_eq_true, decide_eq_true_eq] at hj
   obtain rfl := osi hk
   exact wpAny_getItem_list_neg hl h0 (by lia) (by lia) hx h
  ·injection hk
 ·have e : seqIndex? i vs.size = if (0 <= i && i < vs.size) = true then some i.toNat else none := by unfold seqIndex?; simp only [h0, if_false]
  rw [e] at hk
  split at hk
  ·rename_i hj
   simp only [Bool.and_eq_true, decide_eq_true_eq] at hj
   obtain rfl := osi hk
   exact wpAny_getItem_list hl (by lia) (by lia) hx h
  ·injection hk
theorem item_ok {a b : D} {K : D -> Prop} {X : Addr -> Prop} {s : Shared} {va vb : Value} (hb : ask (itemD a b) K) (ra : RdA w.params s.heap X a va) (rb : Rd w.params s.heap X b vb) :
  ∃ T id, s.TypeIs va T /\ typeLookup (.type T) "__getitem__" = pure (some (.builtin id)) /\ wpAny (model prog w) A (getItem va vb) (Post w.params X s K) FF s := by
 cases a <;> first | exact hb.elim | skip
 ·rename_i x
  exact (ra.flat rfl).strE fun t => vI_E hb (.inl rb) fun i u hb => ask_if hb fun hs hb => ask_map hb fun c h1 hb =>
   ⟨"str", _, typeIs_str s x t, F.slot_str_getitem.lookup, P.getItem_str (by have := small_of hs; simp only [Bool.or_eq_false_iff, decide_eq_false_iff_not]; lia) h1 (pS hb)⟩
 ·exact ra.rawE fun l vs n ho hr => vI_E hb (.inl rb) fun i t hb => ask_if hb fun hs hb => hr.atL hb fun k v d hK h1 h2 h3 =>
   ⟨"list", _, ⟨_, ho, rfl⟩, slot_list_getitem.lookup, getItem_list_any ⟨_, ho, rfl, n, rfl⟩ hs h1 h2 ⟨kr s, d, hK, h3⟩⟩
 ·exact ra.tupE fun l vs n ho hr => vI_E hb (.inl rb) fun i t hb => ask_if hb fun hs hb => hr.atL hb fun k v d hK h1 h2 h3 =>
   ⟨"tuple", _, ⟨_, ho, rfl⟩, F.slot_tuple_getitem.lookup, P.getItem_tuple ho (by have := small_of hs; lia) (by have := small_of hs; lia) h1 h2 ⟨kr s, d, hK, h3⟩⟩
 ·exact ra.dictE fun a es n hs ho hk hr => vS_E hb (.inl rb) fun k t hb => ask_o hb fun d hb hK => xEA ((find_rd (prog := prog) (w := w) k hk hr).1 d hb) fun v h1 h2 =>
   ⟨"dict", _, ⟨_, ho, rfl⟩, slot_dict_getitem.lookup, wpAny_getItem_of (knd := strKind prog w) (strKind_is prog w k t) (mapOf ho hk) h1 ⟨ktok s _, d, hK, h2⟩⟩
noncomputable def partO : Option D -> Option (Option Int)
 | none => some none
 | some .none => some none
 | some (.int i) => some (some i)
 | _ => none
noncomputable def pickL (ds : List D) (lo hi st : Option Int) : List D :=
 ((sliceRange (sliceBounds lo hi st ds.length).1 (sliceBounds lo hi st ds.length).2.1 (sliceBounds lo hi st ds.length).2.2).filterMap (ds[·]?))
noncomputable def pickS (x : Str) (lo hi st : Option Int) : Str :=
 if (st.getD 1 == 1 && (Builtin.Str.strSliceIndices lo hi (st.getD 1) x.length).length == x.length) = true then x else ⟨((Builtin.Str.strSliceIndices lo hi (st.getD 1) x.length).filterMap (x.cps[·]?)).toArray⟩
noncomputable def sliceD (a : D) (l u st : Option D) : Option D :=
 (partO l).bind fun lo => (partO u).bind fun hi => (partO st).bind fun s => match a with
  | .list ds => if s ≠ some 0 /\ ds.length <= sizeLine then some (.list (pickL ds lo hi s)) else none
  | .str x => if s ≠ some 0 /\ (pickS x lo hi s).length <= sizeLine then some (.str (pickS x lo hi s)) else none
  | _ => none
@[elab_as_elim] theorem part_of {K : Option Int -> Prop} {C : Value -> Prop} (e : ask (partO o) K) (r : Rd P h X (o.getD .none) v) (c : ∀ p, K (p.map (·.1)) -> IsPart (partValue p) (p.map (·.1)) -> C (partValue p)) : C v := by
 cases o with
 | none => exact r.noneE (c none e .none)
 | some d =>
  cases d <;> first | exact e.elim | skip
  ·exact r.noneE (c none e .none)
  ·exact r.intE fun t => c (some (_, t)) e (.int _ t)
theorem Rds.pick {vs : Array Value} (r : Rds P h X ds vs.toList) (idx : List Nat) : Rds P h X (idx.filterMap (ds[·]?)) (idx.filterMap (vs[·]?)) := by
 induction idx with
 | nil => exact .nil
 | cons i idx ih =>
  refine rwG filterMap_cons (rwG filterMap_cons (rwG (Eq.symm (Array.getElem?_toList)) ?_))
  cases hd : ds[i]? with
  | none => refine rwG (List.getElem?_eq_none (r.length ▸ List.getElem?_eq_none_iff.mp hd)) ?_; exact ih
  | some d => exact xEA (r.get hd) fun v h1 h2 => by refine rwG h1 ?_; exact .cons h2 ih
theorem slice_ok {l u st : Option D} {K : D -> Prop} {X : Addr -> Prop} {s : Shared} (O : Ok hT X s) (hb : ask (sliceD a l u st) K) (ra : RdA w.params s.heap X a va)
  (rl : Rd w.params s.heap X (l.getD .none) vl) (ru : Rd w.params s.heap X (u.getD .none) vu) (rs : Rd w.params s.heap X (st.getD .none) vst) :
  ∃ T id, s.TypeIs va T /\ typeLookup (.type T) "__getitem__" = pure (some (.builtin id)) /\
   ∀ sl s', Keeps s s' -> s'.heap.IsSliceOf sl vl vu vst -> wpAny (model prog w) A (getItem va (.ref sl)) (PostF w.params X s' K) FF s' := by
 refine ask_bd hb fun lo h1 hb1 => ask_bd hb1 fun hi h2 hb2 => ask_bd hb2 fun sp h3 hb => ?_
 refine part_of (K := (·= lo)) (by refine rwG h1 ?_; exact rfl) rl fun q1 e1 p1 => part_of (K := (·= hi)) (by refine rwG h2 ?_; exact rfl) ru fun q2 e2 p2 => part_of (K := (·= sp)) (by refine rwG h3 ?_; exact rfl) rs fun q3 e3 p3 => ?_
 clear rl ru rs h1 h2 h3 hb1 hb2
 subst e1 e2 e3
 cases a <;> first | exact hb.elim | skip
 ·refine (ra.flat rfl).strE fun t => ask_if hb fun hc hb => ⟨"str", _, typeIs_str s _ t, F.slot_str_getitem.lookup, fun sl s' k hs => ?_⟩
  have h0 : ((q3.map (·.1)).getD 1 == 0) = false := by
   cases q3 with
   | none => rfl
   | some i => simpa using fun e : i.1 = 0 => hc.1 (congrArg some e)
  refine wpAny_getItem_str_slice (l := q1) (u := q2) (st := q3) hs h0 ?_
  unfold sliceMade slicePicked
  unfold pickS at hb hc
  split
  ·rename_i hh
   rw [if_pos hh] at hb
   exact made_old hb
  ·rename_i hh
   rw [if_neg hh] at hb hc
   exact made_str hc.2 hb
 ·refine ra.rawE fun a vs n ho hr => ask_if hb fun hc hb => ⟨"list", _, ⟨_, ho, rfl⟩, list_getitem_lookup, fun sl s' k hs => ?_⟩
  have O' := O.keeps k
  have hz := sz_of hr
  refine wpAny_getItem_list_slice (items := vs) ⟨_, kh k _ _ ho, rfl, n, rfl⟩ hs p1 p2 p3 hc.1 ⟨kpush s' _, _, hb, .list (n := 0) O'.fresh (Heap.get?_push_size _ rfl) ?_, fnew⟩ (by refine rwG hz ?_; exact hc.2)
  unfold slicePick pickL
  refine rwG hz ?_
  exact (hr.pick _).keeps fun _ _ e => Heap.get?_push_of_some _ (kh k _ _ e)
noncomputable def lenD : D -> Option D
 | .list ds => if ds.length <= sizeLine then some (.int ds.length) else none
 | .str x => if x.length <= sizeLine then some (.int x.length) else none
 | .tup ds => if ds.length <= sizeLine then some (.int ds.length) else none
 | .dict ks _ => if ks.length <= sizeLine /\ ks.Nodup then some (.int ks.length) else none
 | _ => none
theorem le63 (h : n <= sizeLine) : (n : Int) < 2 ^ 63 := by have h : n <= 2 ^ 24 := h; lia
theorem len_ok {K : D -> Prop} (hb : ask (lenD a) K) (ra : RdA w.params s.heap X a va) : wpAny (model prog w) A (call (.builtin "len") [va]) (Post w.params X s K) FF s := by
 cases a <;> first | exact hb.elim | skip
 ·exact (ra.flat rfl).strE fun t => ask_if hb fun hl hb => P.len_str (Int.not_le.mpr (le63 hl)) (pI hb)
 ·exact ra.rawE fun a vs n ho hr => ask_if hb fun hl hb => by
   rw [<- sz_of hr] at hl hb
   exact Calls.call_len_list ⟨_, ho, rfl, n, rfl⟩ (le63 hl) (pI hb)
 ·exact ra.tupE fun a vs n ho hr => ask_if hb fun hl hb => by
   rw [<- sz_of hr] at hl hb
   exact P.len_tuple ho (Int.not_le.mpr (le63 hl)) (pI hb)
 ·exact ra.dictE fun a es n hs ho hk hr => ask_if hb fun hl hb => by
   have hlen := congrArg List.length (zip_fst (l := _) (l' := es.map (·.val)) (by rw [hk.length, length_map]))
   rw [length_map] at hlen
   rw [<- hlen] at hb
   exact call_len_dict (knd := strKind prog w) hs (dict_of ho hk hl.2) (by refine rwG hlen ?_; exact le63 hl.1) (pI hb)
noncomputable def no0 (ds : List D) (o : Option D) : Option D := match ds with
 | [] => o
 | _ => none
noncomputable def one (ds : List D) (k : D -> Option D) : Option D := match ds with
 | [d] => k d
 | _ => none
noncomputable def two (ds : List D) (k : D -> D -> Option D) : Option D := match ds with
 | [d, e] => k d e
 | _ => none
section
variable {P : Params} {h : Heap} {X : Addr -> Prop} {K : D -> Prop} {C : List Value -> Prop}
@[elab_as_elim] theorem no0_E (q : ask (no0 ds o) K) (r : Rds P h X ds vs) (c : ask o K -> C []) : C vs := by
 cases ds with
 | nil => exact r.nilE (c q)
 | cons => exact q.elim
@[elab_as_elim] theorem one_E (q : ask (one ds k) K) (r : Rds P h X ds vs) (c : ∀ d v, ask (k d) K -> Rd P h X d v -> C [v]) : C vs := by
 cases ds with
 | nil => exact q.elim
 | cons d ds =>
  cases ds with
  | nil => exact r.consE fun v vs r1 r2 => r2.nilE (C := fun vs => C (v :: vs)) (c d v q r1)
  | cons => exact q.elim
@[elab_as_elim] theorem two_E (q : ask (two ds k) K) (r : Rds P h X ds vs) (c : ∀ d e v u, ask (k d e) K -> Rd P h X d v -> Rd P h X e u -> C [v, u]) : C vs := by
 cases ds with
 | nil => exact q.elim
 | cons d ds =>
  cases ds with
  | nil => exact q.elim
  | cons e ds =>
   cases ds with
   | nil => exact r.consE fun v vs r1 r2 => r2.consE (C := fun vs => C (v :: vs)) fun u vs r2 r3 => r3.nilE (C := fun vs => C (v :: u :: vs)) (c d e v u q r1 r2)
   | cons => exact q.elim
end
noncomputable def mutIdD (m : String) (d : D) : Option String := vL d fun _ => if m = "append" then some "list.append" else if m = "extend" then some "list.extend" else if m = "pop" then some "list.pop" else none
noncomputable def mutD (m : String) (d : D) (ds : List D) : Option D := vL d fun xs =>
 if m = "append" then one ds fun e => if xs.length < sizeLine then some (.list (xs ++ [e])) else none
 else if m = "extend" then one ds fun e => vL e fun ys => if xs.length + ys.length <= sizeLine then some (.list (xs ++ ys)) else none
 else if m = "pop" then no0 ds (if xs ≠ [] /\ xs.length <= sizeLine then some (.list xs.dropLast) else none)
 else none
theorem mutId_E {m id : String} {C : String -> D -> String -> Prop} (h : mutIdD m d = some id) (a : ∀ xs, C "append" (.list xs) "list.append") (b : ∀ xs, C "extend" (.list xs) "list.extend") (c : ∀ xs, C "pop" (.list xs) "list.pop") : C m d id := by
 cases d with
 | list xs =>
  have h : (if m = "append" then some "list.append" else if m = "extend" then some "list.extend" else if m = "pop" then some "list.pop" else none) = some id := h
  by_cases e : m = "append"
  ·rw [if_pos e] at h; exact e ▸ osi h ▸ a xs
  ·rw [if_neg e] at h
   by_cases e : m = "extend"
   ·rw [if_pos e] at h; exact e ▸ osi h ▸ b xs
   ·rw [if_neg e] at h
    by_cases e : m = "pop"
    ·rw [if_pos e] at h; exact e ▸ osi h ▸ c xs
    ·rw [if_neg e] at h; exact nomatch h
 | _ => exact nomatch h
theorem noDict {s : Shared} (hg : s.heap.get? r = some (listOf vs n)) : ∀ a', Value.ref r = .ref a' -> ∃ o, s.heap.get? a' = some o /\ o.dict = none := fun a' e => ⟨_, Value.ref.inj e ▸ hg, rfl⟩
theorem mutM_ok {id : String} {pl : Sem Bool} {Q : Value × List Value -> Shared -> Prop} (h : mutIdD m d = some id) (ho : OwnRd w.params s.heap X d v r) (hQ : Q (.builtin id, [v]) s) :
  wpAny (model prog w) A (getMethod v (ofString m) pl) Q FF s := by
 revert ho hQ
 refine mutId_E (C := fun m d id => OwnRd w.params s.heap X d v r -> Q (.builtin id, [v]) s -> wpAny (model prog w) A (getMethod v (ofString m) pl) Q FF s) h ?_ ?_ ?_
 ·exact fun xs ho => ho.listE fun a vs n _ hg _ hQ => getMethod_builtin (T := "list") ⟨_, hg, rfl⟩ F.plainAttrs_list F.slot_list_append F.type_list_append (noDict hg) hQ
 ·exact fun xs ho => ho.listE fun a vs n _ hg _ hQ => getMethod_builtin (T := "list") ⟨_, hg, rfl⟩ F.plainAttrs_list F.slot_list_extend F.type_list_extend (noDict hg) hQ
 ·exact fun xs ho => ho.listE fun a vs n _ hg _ hQ => getMethod_builtin (T := "list") ⟨_, hg, rfl⟩ F.plainAttrs_list F.slot_list_pop F.type_list_pop (noDict hg) hQ
noncomputable abbrev Mut (P : Params) (X : Addr -> Prop) (s : Shared) (K : D -> Prop) (v : Value) (r : Addr) (s' : Shared) : Prop := Upd1 r s s' /\ ∃ d', K d' /\ OwnRd P s'.heap X d' v r
theorem upd_at {K : D -> Prop} {f : Array Value -> Array Value} {ds : List D} (hx : X l) (hg : s.heap.get? l = some (listOf vs n)) (hr : Rds P s.heap X ds (f vs).toList) (hK : K (.list ds)) :
  Mut P X s K (.ref l) l { s with heap := s.heap.update l (Obj.mapSeq f) } := by
 have hk : ∀ b o, b ≠ l -> s.heap.get? b = some o -> (s.heap.update l (Obj.mapSeq f)).get? b = some o := fun b o hb e => (Heap.get?_update_other _ _ (Ne.symm hb)).trans e
 exact ⟨⟨_, s.toks, rfl, hk⟩, _, hK, .list hx (IsL.update hg f) (hr.move (fun a o ha e => hk a o (fun q => ha (q ▸ hx)) e) (fun _ _ _ x => x))⟩
theorem Rds.dropLast : ∀ {us : List Value}, Rds P h X ds us -> Rds P h X ds.dropLast us.dropLast := by
 induction ds with
 | nil => exact fun r => r.nilE .nil
 | cons d ds ih =>
  refine fun r => r.consE fun v vs a b => ?_
  cases ds with
  | nil => exact b.nilE (C := fun vs => Rds P h X [] (v :: vs).dropLast) .nil
  | cons e ds =>
   cases vs with
   | nil => exact nomatch b.length
   | cons u us => exact .cons a (ih b)
theorem mutW_ok {id : String} {K : D -> Prop} {s : Shared} {v : Value} {r : Addr} {vs : List Value} (h : mutIdD m d = some id) (hd : ask (mutD m d ds) K) (ho : OwnRd w.params s.heap X d v r) (hr : Rds w.params s.heap X ds vs) :
  wpAny (model prog w) A (call (.builtin id) (v :: vs)) (fun _ s' => Mut w.params X s K v r s') FF s := by
 revert hd ho
 refine mutId_E (C := fun m d id => ask (mutD m d ds) K -> OwnRd w.params s.heap X d v r -> wpAny (model prog w) A (call (.builtin id) (v :: vs)) (fun _ s' => Mut w.params X s K v r s') FF s) h ?_ ?_ ?_
 ·refine fun xs hd ho => ho.listE fun r its n hx hg hxs => one_E hd hr fun e v1 hd r1 => ask_if hd fun hl hd => ?_
  have hz := sz_of hxs
  exact call_meets F.slot_list_append ⟨_, hg, rfl⟩ F.entry_list_append (F.args_list_append_2 _ _) (list_append r its n v1 (by lia)) ⟨hg, upd_at (f := fun x => x.push v1) hx hg (by refine rwG Array.toList_push ?_; exact hxs.append (.cons r1 .nil)) hd⟩
 ·refine fun xs hd ho => ho.listE fun r its n hx hg hxs => one_E hd hr fun e v1 hd r1 => vL_E hd (.inl r1) fun ys l' vs' n' hd ho' hr' => ask_if hd fun hl hd => ?_
  have hz := sz_of hxs; have hz' := sz_of hr'
  exact call_meets F.slot_list_extend ⟨_, hg, rfl⟩ F.entry_list_extend (F.args_list_extend_2 _ _) (AutoSeq1.list_extend_list_list_0 r its n l' vs' n' (by simp [Builtin.List.listTooLong]; intro _; lia) (by lia) (by lia))
   ⟨hg, ho', upd_at (f := fun x => x ++ vs') hx hg (by refine rwG Array.toList_append ?_; exact hxs.append hr') hd⟩
 ·refine fun xs hd ho => ho.listE fun r its n hx hg hxs => no0_E hd hr fun hd => ask_if hd fun hl hd => ?_
  have hz := sz_of hxs
  have hlen : 0 < xs.length := List.length_pos_iff.mpr hl.1
  have hi : its.size - 1 < its.size := by lia
  exact call_meets F.slot_list_pop ⟨_, hg, rfl⟩ F.entry_list_pop (F.args_list_pop_1 _) (MeetsSeq.list_pop_last r its n its[its.size - 1] (Array.getElem?_eq_getElem hi) (by lia)) ⟨hg, upd_at (f := fun x => x.eraseIdxIfInBounds (its.size - 1)) hx hg (by
   obtain ⟨l⟩ := its
   rw [size_toArray, List.eraseIdxIfInBounds_toArray, List.eraseIdx_length_sub_one]
   exact hxs.dropLast) hd⟩
noncomputable def setID (d i e : D) : Option D := match d with
 | .list xs => vI i fun k => if 0 <= k /\ k < xs.length /\ smallB k then some (.list (xs.set k.toNat e)) else none
 | .dict ks ds => vS i fun k => if ks.Nodup /\ k ∉ ks /\ ks.length <= sizeLine then some (.dict (ks ++ [k]) (ds ++ [e])) else none
 | _ => none
theorem setItem_list_at {k : Int} {Q : Unit -> Shared -> Prop} (ho : s.heap.get? l = some (listOf items n)) (h0 : 0 <= k) (hfit : k < 2 ^ 63) (hn : k < items.size)
  (hQ : Q () { s with heap := s.heap.update l (Obj.mapSeq (·.setIfInBounds k.toNat v)) }) : wpAny (model prog w) A (setItem (.ref l) (.int k t) v) Q FF s := by
 have hl : s.heap.IsList l items := ⟨_, ho, rfl, n, rfl⟩
 unfold setItem
 try with_reducible refine wpAny_holding ?_
 refine wpAny_bind (wpAny_sequenceKey hl.typeIs (by decide) ?_)
 refine wpAny_bind (wpAny_callSpecial?_slot (name := ofString "__setitem__") hl.typeIs slot_list_setitem (wpAny_call_entry slot_list_setitem hl.typeIs entry_list_setitem ?_ (args_list_setitem _ _ _)))
 show wpAny _ _ (Builtin.List.listSubscript? (.int k t) >>= _) _ _ s
 refine wpAny_bind (wpAny_listSubscript_int (fitsIndex_of h0 hfit) ?_)
 clear hfit
 refine xE (Int.eq_ofNat_of_zero_le h0) fun j z1q => ?_; obtain rfl := z1q
 have hj : j < items.size := by lia
 have hx' : items[j]? = some items[j] := Array.getElem?_eq_getElem hj
 show wpAny _ _ ((seqItemAt l j >>= fun r => pure (r.map (j, ·))) >>= _) _ _ s
 refine wpAny_bind (wpAny_bind (wpAny_seqItemAt ho rfl (wpAny_pure ?_)))
 refine rwG hx' ?_
 show wpAny _ _ (setSeqItemAt l j v >>= _) _ _ s
 refine wpAny_bind (wpAny_setSeqItemAt ho rfl ?_)
 first
  | exact wpAny_bind (wpAny_pure (wpAny_pure ⟨.none, rfl, wpAny_pure hQ⟩))
  | exact wpAny_pure ⟨.none, rfl, wpAny_pure hQ⟩
theorem Rds.set : ∀ {vs : List Value} {d : D} {v : Value} (k : Nat), Rds P h X ds vs -> Rd P h X d v -> Rds P h X (ds.set k d) (vs.set k v) := by
 induction ds with
 | nil => exact fun k r q => r.nilE .nil
 | cons d ds ih =>
  refine fun {vs d v} k r q => r.consE fun u us a b => ?_
  cases k with
  | zero => exact .cons q b
  | succ k => exact .cons a (ih k b q)
theorem obj_dict (h1 : o.cls = .type "dict" /\ o.dict = none /\ o.slots = #[]) (h2 : o.data = .dict es n) : o = dictOf es.toList n := by
 obtain ⟨c, dd, dt, sl⟩ := o
 obtain ⟨rfl, rfl, rfl⟩ := h1
 obtain rfl := h2
 rfl
theorem setI_ok {K : D -> Prop} {s : Shared} {vi ve : Value} (hd : ask (setID d i e) K) (ho : OwnRd w.params s.heap X d v r) (ri : Rd w.params s.heap X i vi) (re : Rd w.params s.heap X e ve) :
  wpAny (model prog w) A (setItem v vi ve) (fun _ s' => Mut w.params X s K v r s') FF s := by
 cases d <;> first | exact hd.elim | skip
 ·refine ho.listE fun r its n hx hg hxs => vI_E hd (.inl ri) fun k t hd => ask_if hd fun hc hd => ?_
  have hz := sz_of hxs
  have h2 := small_of hc.2.2
  exact setItem_list_at hg hc.1 (by lia) (by lia) (upd_at (f := fun x => x.setIfInBounds k.toNat ve) hx hg (by refine rwG Array.toList_setIfInBounds ?_; exact hxs.set _ re) hd)
 ·rename_i ks ds
  refine ho.dictE fun r es n hs hx hg hk hxs => vS_E hd (.inl ri) fun k t hd => ask_if hd fun hc hd => ?_
  have hfst := zip_fst (l := ks) (l' := es.map (·.val)) (by rw [hk.length, length_map])
  have hsnd := zip_snd (l := ks) (l' := es.map (·.val)) (by rw [hk.length, length_map])
  have hlen := congrArg List.length hfst
  rw [length_map] at hlen
  refine wpAny_setItem_pairs (knd := strKind prog w) (strKind_is prog w k t) (dict_of hg hk hc.1) (fun h' hm hsb => ?_) (by refine rwG hlen ?_; exact hc.2.2)
  have hany : ¬ ((ks.zip (es.map (·.val))).any fun kv => decide (kv.1 = k)) = true := by
   rw [any_eq_true]; rintro ⟨kv, hkv, he⟩
   exact hc.2.1 (hfst ▸ mem_map.mpr ⟨kv, hkv, of_decide_eq_true he⟩)
  rw [stored, if_neg hany] at hm
  refine xEEEAAAAA hm fun o es' ep ho' hex hdt hko hp _ => ?_
  clear hm hany
  obtain rfl := obj_dict hex hdt
  refine xA (pairs_keys hp fun e he => hko e (List.mem_toArray.mpr he)) fun k1 k2 => ?_
  rw [map_append, hfst] at k1
  rw [map_append, hsnd] at k2
  have hkeep : ∀ b o, b ≠ r -> s.heap.get? b = some o -> h'.get? b = some o := fun b o hb e => (hsb.2 b hb).trans e
  refine ⟨⟨h', s.toks + 1, rfl, hkeep⟩, _, hd, .dict hs hx ho' k1 ?_⟩
  refine rwG k2 ?_
  exact (hxs.append (.cons re .nil)).move (fun a o ha e => hkeep a o (fun q => ha (q ▸ hx)) e) (fun _ _ _ x => x)
noncomputable def strsOf : List D -> Option (List Str)
 | [] => some []
 | d :: r => vS d fun i => (strsOf r).map (i :: ·)
noncomputable def maxL : List Int -> Option Int
 | [] => none
 | x :: r => some (r.foldl max x)
noncomputable def splitOk (x y : Str) : Bool := decide (x.length <= sizeLine) && decide ((Builtin.Str.partsBetween x (Builtin.Str.occurrences x y 0 x.length (x.length + 1)) y.length).length <= sizeLine) && !(y.length == 0)
noncomputable def fnBu (n : String) (ds : List D) : Option D :=
 if n = "len" then one ds lenD
 else if n = "max" then (match ds with
  | [d] => vL d fun xs => ((intsOf xs).bind maxL).map .int
  | _ => two ds fun a b => vI a fun a => vI b fun b => some (.int (if b > a then b else a)))
 else if n = "sum" then one ds fun d => vL d fun xs => (intsOf xs).bind fun ys => if ys.length <= sizeLine /\ ys.all (fun y => decide (-1 <= y /\ y <= 1)) = true then some (.int ys.sum) else none
 else if n = "str.split" then two ds fun x y => vS x fun x => vS y fun y => if splitOk x y then some (.list ((Txt.split x y).map .str)) else none
 else if n = "str.join" then two ds fun x y => vS x fun x => vL y fun xs => (strsOf xs).bind fun ys => if JoinOk x ys = true then some (.str (Txt.join x ys)) else none
 else if n = "str.lstrip" then two ds fun x y => vS x fun x => vS y fun y => if x.length <= sizeLine then some (.str (Txt.lstripChars x y)) else none
 else none
noncomputable def fnD (v : Value) (ds : List D) : Option D := match v with
 | .builtin n => fnBu n ds
 | .type n => if n = "tuple" then one ds fun d => vL d fun xs => if xs.length <= sizeLine then some (.tup xs) else none
  else if n = "str" then one ds fun d => vI d fun i => if smallB i then some (.str (ofString (toString i))) else none
  else none
 | _ => none
theorem fnBu_E {K : D -> Prop} {C : String -> Prop} (h : ask (fnBu n ds) K)
  (c1 : ask (fnBu "len" ds) K -> C "len") (c2 : ask (fnBu "max" ds) K -> C "max") (c3 : ask (fnBu "sum" ds) K -> C "sum")
  (c4 : ask (fnBu "str.split" ds) K -> C "str.split") (c5 : ask (fnBu "str.join" ds) K -> C "str.join") (c6 : ask (fnBu "str.lstrip" ds) K -> C "str.lstrip") : C n := by
 by_cases e1 : n = "len"
 ·exact e1 ▸ c1 (e1 ▸ h)
 by_cases e2 : n = "max"
 ·exact e2 ▸ c2 (e2 ▸ h)
 by_cases e3 : n = "sum"
 ·exact e3 ▸ c3 (e3 ▸ h)
 by_cases e4 : n = "str.split"
 ·exact e4 ▸ c4 (e4 ▸ h)
 by_cases e5 : n = "str.join"
 ·exact e5 ▸ c5 (e5 ▸ h)
 by_cases e6 : n = "str.lstrip"
 ·exact e6 ▸ c6 (e6 ▸ h)
 unfold fnBu at h
 rw [if_neg e1, if_neg e2, if_neg e3, if_neg e4, if_neg e5, if_neg e6] at h
 exact h.elim
theorem tyFn_E {K : D -> Prop} {C : String -> Prop} (h : ask (fnD (.type n) ds) K) (c1 : ask (fnD (.type "tuple") ds) K -> C "tuple") (c2 : ask (fnD (.type "str") ds) K -> C "str") : C n := by
 by_cases e1 : n = "tuple"
 ·exact e1 ▸ c1 (e1 ▸ h)
 by_cases e2 : n = "str"
 ·exact e2 ▸ c2 (e2 ▸ h)
 unfold fnD at h
 dsimp only at h
 rw [if_neg e1, if_neg e2] at h
 exact h.elim
theorem Rds.itemsA (r : Rds P h X ds vs.toList) (e : intsOf ds = some xs) : ∃ ys : Array (Int × Tok), vs = intItems ys /\ ys.toList.map (·.1) = xs := by
 obtain ⟨vs⟩ := vs
 obtain ⟨ys, rfl, h2⟩ := r.items e
 exact ⟨ys.toArray, List.map_toArray.symm, h2⟩
theorem Rds.strItems : ∀ {vs : List Value} {xs : List Str}, Rds P h X ds vs -> strsOf ds = some xs -> ∃ ys : List (Str × Tok), vs = strValues ys /\ ys.map (·.1) = xs := by
 induction ds with
 | nil => exact fun r e => r.nilE ⟨[], rfl, osi e⟩
 | cons d ds ih =>
  refine fun {vs xs} r e => r.consE fun v vs r rs => ?_
  have e' : ask (strsOf (d :: ds)) (·= xs) := by refine rwG e ?_; exact rfl
  exact vS_E e' (.inl r) fun i t e => ask_map e fun ys e1 e => xEA (ih rs e1) fun zs h1 h2 => ⟨(i, t) :: zs, congrArg (Value.str i t :: ·) h1, e ▸ congrArg _ h2⟩
theorem foldl_max : ∀ (l : List Int) (x m : Int), m ∈ x :: l -> (∀ a ∈ x :: l, a <= m) -> l.foldl max x = m
 | [], x, m, h1, h2 => by simpa using (mem_singleton.mp h1).symm
 | y :: l, x, m, h1, h2 => by
  refine rwG foldl_cons ?_
  have hx := h2 x mem_cons_self
  have hy := h2 y (mem_cons_of_mem _ mem_cons_self)
  refine foldl_max l (max x y) m ?_ fun a ha => ?_
  ·rcases mem_cons.mp h1 with rfl | h1
   ·refine rwG (Int.max_eq_left hy) ?_; exact mem_cons_self
   ·rcases mem_cons.mp h1 with rfl | h1
    ·refine rwG (Int.max_eq_right hx) ?_; exact mem_cons_self
    ·exact mem_cons_of_mem _ h1
  ·rcases mem_cons.mp ha with rfl | ha
   ·exact Int.max_le.mpr ⟨hx, hy⟩
   ·exact h2 a (mem_cons_of_mem _ (mem_cons_of_mem _ ha))
theorem khp (hk : ∀ b o, s.heap.get? b = some o -> h'.get? b = some o) : Keeps s { s with heap := h', toks := tk } := ⟨h', tk, rfl, hk⟩
theorem sum_bound : ∀ l : List Int, (∀ a ∈ l, -1 <= a /\ a <= 1) -> -(l.length : Int) <= l.sum /\ l.sum <= l.length
 | [], _ => by simp
 | x :: l, h => by
  have h1 := h x mem_cons_self
  have h2 := sum_bound l fun a ha => h a (mem_cons_of_mem _ ha)
  refine rwG List.sum_cons (rwG length_cons ?_)
  lia
theorem Rds.ofStrs : ∀ {l : List (Str × Tok)}, Rds P h X ((l.map (·.1)).map D.str) (strValues l)
 | [] => .nil
 | (x, t) :: l => .cons (.str x t) (Rds.ofStrs (l := l))
theorem split_ok {K : D -> Prop} (O : Ok hT X s) (hs : splitOk x y = true) (hK : K (.list ((Txt.split x y).map .str))) :
  wpAny (model prog w) A (call (.builtin "str.split") [.str x t, .str y u]) (Post w.params X s K) FF s := by
 unfold splitOk at hs
 simp only [Bool.and_eq_true, decide_eq_true_eq, Bool.not_eq_true'] at hs
 refine xA hs fun z1q hy => xA z1q fun hsz hsz2 => ?_
 clear hs z1q
 have fin : ∀ (l : List (Str × Tok)) (k : Nat), l.map (·.1) = Txt.split x y -> Post w.params X s K (.ref s.heap.objs.size) { s with toks := k, heap := s.heap.push { cls := .type "list", data := .seq (strValues l).toArray } } := fun l k e =>
  ⟨⟨_, k, rfl, fun _ _ e => Heap.get?_push_of_some _ e⟩, _, hK, .list (n := 0) O.fresh (Heap.get?_push_size _ rfl) (e ▸ Rds.ofStrs)⟩
 cases h1 : (decide (x.length < y.length) || decide (Builtin.Str.strKind x < Builtin.Str.strKind y))
 ·cases hf : (Builtin.Str.occurrences x y 0 x.length (x.length + 1)).isEmpty
  ·refine call_meets F.slot_str_split (typeIs_str _ _ _) F.entry_str_split (F.args_str_split_2 _ _) (meets_str_split_sep x y t u h1 hy hf hsz hsz2) ?_
   show wants (Post w.params X s K) FF _ { s with toks := _, heap := s.heap.push { cls := .type "list", data := .seq (strsFrom s.toks (Builtin.Str.partsBetween x (Builtin.Str.occurrences x y 0 x.length (x.length + 1)) y.length)).toArray } }
   rw [strsFrom_eq]
   exact fin (numbered s.toks _) _ ((numbered_texts _ _).trans ((if_neg (ne_true_of_eq_false h1)).trans (if_neg (ne_true_of_eq_false hf))).symm)
  ·exact call_meets F.slot_str_split (typeIs_str _ _ _) F.entry_str_split (F.args_str_split_2 _ _) (meets_str_split_not_found x y t u h1 hy hf)
    (fin [(x, t)] s.toks ((if_neg (ne_true_of_eq_false h1)).trans (if_pos hf)).symm)
 ·exact call_meets F.slot_str_split (typeIs_str _ _ _) F.entry_str_split (F.args_str_split_2 _ _) (meets_str_split_cannot_occur x y t u h1)
   (fin [(x, t)] s.toks (if_pos h1).symm)
theorem numAt_get (h4 : zs.toList.map (·.1) = ys) (i : Nat) : numAt zs i = ys.getD i 0 := by rw [numAt_eq, h4]
theorem max_best (h4 : zs.toList.map (·.1) = y :: ys) : numAt zs (argBest (fun i j => decide (numAt zs i > numAt zs j)) (zs.size - 1)) = ys.foldl max y := by
 have hlen : zs.size = (y :: ys).length := by rw [<- h4, length_map, Array.length_toList]
 refine xA (argBest_gt (numAt zs) (zs.size - 1)) fun a1 a2 => (foldl_max ys y _ ?_ fun a ha => ?_).symm
 ·rw [numAt_get h4]; exact getD_mem (by refine rwG (Eq.symm hlen) ?_; rw [length_cons] at hlen; lia)
 ·refine xEA (mem_getD ha) fun j hj e => ?_
  rw [<- e, <- numAt_get h4]; exact a2 j (by lia)
theorem sums_small {ys : List Int} (h : ys.length <= sizeLine) (hal : ∀ a ∈ ys, -1 <= a /\ a <= 1) (j : Nat) : -(2 ^ 25 : Int) <= (ys.take j).sum /\ (ys.take j).sum <= 2 ^ 25 := by
 have hb := sum_bound (ys.take j) fun a ha => hal a (mem_of_mem_take ha)
 have h2 : (ys.take j).length <= ys.length := List.length_take_le' ..
 have h3 : ys.length <= 2 ^ 24 := h
 lia
theorem fnBu_ok {K : D -> Prop} {X : Addr -> Prop} (hh : A.handled = none) (O : Ok hT X s) (hd : ask (fnBu n ds) K) (hr : Rds w.params s.heap X ds vs) :
  wpAny (model prog w) A (call (.builtin n) vs) (Post w.params X s K) FF s := by
 refine fnBu_E (C := fun n => wpAny (model prog w) A (call (.builtin n) vs) (Post w.params X s K) FF s) hd (fun hd => ?_) (fun hd => ?_) (fun hd => ?_) (fun hd => ?_) (fun hd => ?_) fun hd => ?_
 ·exact one_E hd hr fun d v hd r => len_ok hd (.inl r)
 ·have two' : ask (two ds fun a b => vI a fun a => vI b fun b => some (.int (if b > a then b else a))) K -> wpAny (model prog w) A (call (.builtin "max") vs) (Post w.params X s K) FF s := fun hd =>
   two_E hd hr fun d e v u hd r1 r2 => vI_E hd (.inl r1) fun a t hd => vI_E hd (.inl r2) fun b u hd => max_two_ints hh fun h' tk hk => ⟨khp hk, _, hd, by
    by_cases h : b > a
    ·refine rwG (if_pos h) (rwG (if_pos h) ?_); exact .int _ _
    ·refine rwG (if_neg h) (rwG (if_neg h) ?_); exact .int _ _⟩
  cases ds with
  | nil => exact two' hd
  | cons d ds =>
   cases ds with
   | cons => exact two' hd
   | nil =>
    refine one_E (k := fun d => vL d fun xs => ((intsOf xs).bind maxL).map .int) hd hr fun d v hd r1 => vL_E hd (.inl r1) fun xs l its k hd ho hrs => ask_map hd fun m h1 hd => ?_
    refine xEA (Option.bind_eq_some_iff.mp h1) fun ys h2 h3 => ?_
    refine xEA (hrs.itemsA h2) fun zs e h4 => ?_
    subst e
    cases ys with
    | nil => exact nomatch h3
    | cons y ys =>
     obtain rfl := osi h3
     refine max_intList hh ⟨_, ho, rfl, k, rfl⟩ (by rw [<- Array.length_toList, <- length_map, h4]; exact Nat.succ_pos _) fun v h' tk hv hk => ?_
     refine xE (intItems_at hv) fun t e => ?_
     subst e
     refine rwG (max_best h4) ?_
     exact ⟨khp hk, _, hd, .int _ _⟩
 ·refine one_E hd hr fun d v hd r1 => vL_E hd (.inl r1) fun xs l its k hd ho hrs => ask_bd hd fun ys h2 hd => ask_if hd fun hc hd => ?_
  refine xEA (hrs.itemsA h2) fun zs e h4 => ?_
  subst e
  have hlen : zs.size = ys.length := by rw [<- h4, length_map, Array.length_toList]
  have hal : ∀ a ∈ ys, -1 <= a /\ a <= 1 := fun a ha => of_decide_eq_true (all_eq_true.mp hc.2 a ha)
  refine sum_intList hh ⟨_, ho, rfl, k, rfl⟩ (fun j hj => ?_) fun h' tk t' hk => ?_
  ·rw [numAt_get h4, preSum_eq, h4]
   have hm := hal _ (getD_mem (l := ys) (j := j) (by lia))
   have hb := sums_small hc.1 hal (j + 1)
   exact ⟨⟨by lia, by lia⟩, ⟨by lia, by lia⟩⟩
  ·rw [preSum_eq, h4, take_of_length_le (Nat.le_of_eq hlen.symm)]
   exact ⟨khp hk, _, hd, .int _ _⟩
 ·exact two_E hd hr fun d e v u hd r1 r2 => vS_E hd (.inl r1) fun x t hd => vS_E hd (.inl r2) fun y u hd => ask_if hd fun hc hd => split_ok O hc hd
 ·refine two_E hd hr fun d e v u hd r1 r2 => vS_E hd (.inl r1) fun x t hd => vL_E hd (.inl r2) fun xs l its k hd ho hrs => ask_bd hd fun ys h2 hd => ask_if hd fun hc hd => ?_
  exact xEA (hrs.strItems h2) fun zs h3 h4 => SC.join (D := l) (l := zs) ⟨_, ho, rfl, k, show Data.seq its k = _ by exact rwG (Eq.symm h3) rfl⟩ h4 hc fun t' k => pS hd
 ·exact two_E hd hr fun d e v u hd r1 r2 => vS_E hd (.inl r1) fun x t hd => vS_E hd (.inl r2) fun y u hd => ask_if hd fun hc hd => SC.lstripChars (fun t' k => pS hd) hc
theorem log_small (h : smallB i = true) : i.natAbs.log2 < 1920 := by
 by_cases h0 : i.natAbs = 0
 ·refine rwG h0 ?_; decide
 ·have h1 : i.natAbs < 2 ^ 30 := by have := small_of h; lia
  exact Nat.lt_of_lt_of_le ((Nat.log2_lt h0).mpr h1) (by decide)
theorem fnD_ok {K : D -> Prop} {X : Addr -> Prop} (hh : A.handled = none) (O : Ok hT X s) (hd : ask (fnD v ds) K) (hr : Rds w.params s.heap X ds vs) :
  wpAny (model prog w) A (call v vs) (Post w.params X s K) FF s := by
 cases v <;> first | exact hd.elim | skip
 ·refine tyFn_E (C := fun n => wpAny (model prog w) A (call (.type n) vs) (Post w.params X s K) FF s) hd (fun hd => ?_) fun hd => ?_
  ·refine one_E hd hr fun d v hd r1 => vL_E hd (.inl r1) fun xs l its k hd ho hrs => ask_if hd fun hc hd => ?_
   refine call_tuple_list ⟨_, ho, rfl, k, rfl⟩ (fun h' hk => ?_) (by refine rwG (sz_of hrs) ?_; exact hc)
   have hk' : ∀ b o, s.heap.get? b = some o -> (h'.push { cls := .type "tuple", data := .seq its }).get? b = some o := fun b o e => Heap.get?_push_of_some _ (hk b o e)
   exact ⟨⟨_, s.toks, rfl, hk'⟩, _, hd, .tup (n := 0) (fun x => xE (O.live _ x) fun o e => absurd (Heap.lt_size (hk _ _ e)) (Nat.lt_irrefl _)) (Heap.get?_push_size _ rfl) (hrs.keeps hk')⟩
  ·exact one_E hd hr fun d v hd r1 => vI_E hd (.inl r1) fun i t hd => ask_if hd fun hc hd => P.str_of_int (log_small hc) (pS hd)
 ·exact fnBu_ok hh O hd hr
end
section
variable {prog : Program} {w : World} {hT : Heap} {A : Around} {K : Frag}
structure ClsK (K : Frag) (C : Addr) : Prop where
 ga : findIn K (.ref C) "__getattribute__" = some (some (.builtin "object.__getattribute__"))
 gk : findIn K (.ref C) "__getattr__" = some none
 hd : hasDictIn K C = true
 sa : findIn K (.ref C) "__setattr__" = some (some (.builtin "object.__setattr__"))
 over : plainOver K C = true
theorem KeysAre.getL (k : Str) (hk : KeysAre P ks es) : ∀ {ds : List D}, Rds P h X ds (es.map (·.val)) ->
  (∀ d, getK ks ds k = some d -> ∃ v, W.getL k es = some (some v) /\ Rd P h X d v) /\ (ks.contains k = false -> W.getL k es = some none /\ es.any (·.key.isStr k) = false) := by
 refine hk.rec' (M := fun ks es => ∀ {ds : List D}, Rds P h X ds (es.map (·.val)) ->
  (∀ d, getK ks ds k = some d -> ∃ v, W.getL k es = some (some v) /\ Rd P h X d v) /\ (ks.contains k = false -> W.getL k es = some none /\ es.any (·.key.isStr k) = false)) (fun _ => ⟨(fun d e => nomatch e), fun _ => ⟨rfl, rfl⟩⟩) fun k' ks e es t h1 h2 _ ih ds hr => ?_
 cases ds with
 | nil => exact nomatch hr.length
 | cons d ds =>
  refine Rds.consE' hr fun r rs => xA (ih rs) fun i1 i2 => ?_
  unfold getK W.getL at *
  rw [zip_cons_cons, lookup_cons, contains_cons, List.find?_cons, any_cons, any_cons, show (k == k') = (k' == k) from Bool.beq_comm, show e.key.isStr k = (k' == k) by refine rwG h1 ?_; rfl, show e.refKey = false by unfold DictEntry.refKey; exact rwG h1 rfl]
  cases k' == k with
  | true => exact ⟨fun d' e' => ⟨_, rfl, osi e' ▸ r⟩, fun q => nomatch q⟩
  | false => exact ⟨i1, i2⟩
noncomputable def D.plainV : D -> Bool
 | .val _ => false
 | _ => true
theorem Rd.handed (r : Rd P h X d v) (hp : d.plainV = true) : handedIn v = true := by
 cases r <;> first | rfl | injection hp
theorem inst_at (h1 : h.get? a = some (instObj C dx)) (h2 : h.get? dx = some (dictOf es n)) : InstAt h a (instObj C dx) C (some (dictOf es n)) := ⟨h1, rfl, rfl, h2⟩
theorem attr_inst (X₀ : K.In s.heap) (G : ClsK K C) (hn : findIn K (.ref C) name = some none) (hd : getK ks ds name = some d) (hp : d.plainV = true) (hK : Kt d) (r : RdA w.params s.heap X (.inst C ks ds) v) :
  wpAny (model prog w) A (getAttr v name expr) (Post w.params X s Kt) FF s := by
 refine r.instE fun a dx es n h1 h2 h3 h4 => ?_
 refine xEA ((h3.getL name h4).1 d hd) fun u e1 e2 => ?_
 exact get_value X₀ (inst_at h1 h2) G.ga (findObj_own G.hd hn rfl e1) (e2.handed hp) ⟨ktok s _, d, hK, e2⟩
theorem meth_inst (X₀ : K.In s.heap) (G : ClsK K C) (hf : findIn K (.ref C) name = some (some (.ref f))) (ht : typeIn K (.ref f) = some (.type "function"))
  (hn : ks.contains name = false) (r : RdA w.params s.heap X (.inst C ks ds) v) (hQ : Q (.ref f, [v]) s) : wpAny (model prog w) A (getMethod v name pl) Q FF s := by
 revert hQ
 refine r.instE fun a dx es n h1 h2 h3 h4 hQ => ?_
 have e1 := ((h3.getL name h4).2 hn).1
 refine method_fn X₀ (inst_at h1 h2) G.ga G.gk hf ht ?_ hQ
 show (lookIn name (dictOf es n)).map _ = _
 rw [lookIn_dict, e1]
 rfl
theorem putL_len (es : List DictEntry) : (putL name hsh key v es).length <= es.length + 1 := by
 induction es with
 | nil => exact Nat.le_refl _
 | cons e r ih =>
  unfold putL
  split
  ·exact Nat.le_succ _
  ·exact Nat.succ_le_succ ih
theorem setattr_raw (X₀ : K.In s.heap) (G : ClsK K C) (ht : takerIn K C name = some none) (hx : s.heap.get? x = some (instObj C dx)) (hdx : s.heap.get? dx = some (dictOf es n))
  (hl : W.getL name es = some none) (hz : es.length <= 900)
  (h : Q () { s with heap := s.heap.update dx (Obj.putName name (PyData.keyHash w.params name) (.str name (s.toks + 1)) v), toks := s.toks + 1 + 1 }) : wpAny (model prog w) A (setAttr (.ref x) name v) Q FF s := by
 refine set_plain X₀ (inst_at hx hdx) G.sa (osa_open (s := { s with toks := s.toks + 1 }) X₀ (inst_at hx hdx) G.over ht fun b => ?_)
 refine xEA (any_some G.hd) fun cd hc hd' => ?_
 have hup := Heap.get?_update_self (h := s.heap) (Obj.putName name (PyData.keyHash w.params name) (.str name (s.toks + 1)) v) hdx (by rw [putName_dict]; rfl)
 rw [putName_dict] at hup
 refine wpAny_bind (wpAny_pure (wpAny_bind (wpAny_bind (wpAny_loadPart hx (wpAny_bind (looks_clsIn (M := model prog w) X₀ hc _ _ _ _ (fun _ _ e => e) ?_))))))
 refine rwG hd' ?_
 refine wpAny_pure (a := some dx) (wpAny_bind (wpAny_pure (wpAny_bind ?_)))
 unfold nsSet
 refine wpAny_bind (wpAny_bind (wpAny_askSetting (wpAny_pure (wpAny_bind (wpAny_mkText (wpAny_bind (wpAny_loadPart hdx ?_)))))))
 have c : (!es.toArray.any (·.key.isStr name) && es.toArray.any (·.refKey)) = false := by
  unfold W.getL at hl
  split at hl
  ·cases hl
  ·split at hl
   ·injection hl
   ·rename_i z; rw [Bool.not_eq_true] at z; rw [any_toArray, any_toArray, z, Bool.and_false]
 show wpAny _ _ (if aRefKeyMayBeTheName name es.toArray = true then _ else _) _ _ _
 rw [aRefKeyMayBeTheName_at, c]
 refine wpAny_updatePart hdx ?_
 refine wpAny_bind (wpAny_lookBehind hup (pastItsLine_dict ?_) ?_)
 ·have := putL_len (name := name) (hsh := PyData.keyHash w.params name) (key := .str name (s.toks + 1)) (v := v) es
  refine rwG size_toArray (rwG sizeLine_eq ?_); lia
 ·exact wpAny_pure h
theorem putL_new (h : es.any (·.key.isStr name) = false) : putL name hsh key v es = es ++ [⟨hsh, key, v⟩] := by
 induction es with
 | nil => rfl
 | cons e r ih =>
  rw [any_cons, Bool.or_eq_false_iff] at h
  unfold putL
  refine rwG h.1 (rwG (if_neg Bool.false_ne_true) (rwG (ih h.2) ?_))
  rfl
theorem KeysAre.snoc (h : KeysAre P ks es) : KeysAre P (ks ++ [k]) (es ++ [⟨PyData.keyHash P k, .str k t, v⟩]) :=
 h.rec' (M := fun ks es => KeysAre P (ks ++ [k]) (es ++ [(⟨PyData.keyHash P k, .str k t, v⟩ : DictEntry)])) (And.intro ⟨t, rfl⟩ (And.intro rfl trivial)) fun _ _ _ _ t h1 h2 _ ih => And.intro ⟨t, h1⟩ (And.intro h2 ih)
theorem setA_inst (X₀ : K.In s.heap) (G : ClsK K C) (hn : findIn K (.ref C) name = some none) (hk : ks.contains name = false) (hl : ks.length <= 900)
  (hK : Kt (.inst C (ks ++ [name]) (ds ++ [e]))) (ho : OwnRd w.params s.heap X (.inst C ks ds) v r) (re : Rd w.params s.heap X e ve) :
  wpAny (model prog w) A (setAttr v name ve) (fun _ s' => Mut w.params X s Kt v r s') FF s := by
 refine ho.instE fun a r es n h1 h2 h3 h4 h5 h6 => xA ((h5.getL name h6).2 hk) fun e1 e2 => ?_
 refine setattr_raw X₀ G (by unfold takerIn; refine rwG hn ?_; rfl) h3 h4 e1 (by refine rwG (Eq.symm h5.length) ?_; exact hl) ?_
 have hup := Heap.get?_update_self (h := s.heap) (Obj.putName name (PyData.keyHash w.params name) (.str name (s.toks + 1)) ve) h4 (by rw [putName_dict]; rfl)
 rw [putName_dict, putL_new e2] at hup
 have hkeep : ∀ b o, b ≠ r -> s.heap.get? b = some o -> (s.heap.update r (Obj.putName name (PyData.keyHash w.params name) (.str name (s.toks + 1)) ve)).get? b = some o := fun b o hb e => (Heap.get?_update_other _ _ (Ne.symm hb)).trans e
 refine ⟨⟨_, _, rfl, hkeep⟩, _, hK, .inst h1 h2 (hkeep _ _ (fun q => h1 (q ▸ h2)) h3) hup h5.snoc ?_⟩
 refine rwG map_append ?_
 exact (h6.append (.cons re .nil)).move (fun a o ha e => hkeep a o (fun q => ha (q ▸ h2)) e) (fun _ _ _ x => x)
structure Tb where
 glob : List (String × D)
 wc : Addr
 fields : List String
 meths : List (String × Addr)
 cattr : List (String × Str)
noncomputable abbrev Ut := List (Addr × (List D -> (D -> Prop) -> Prop))
noncomputable def strMeth (name : String) : Option Value := if name = "split" then some (.builtin "str.split") else if name = "join" then some (.builtin "str.join") else if name = "lstrip" then some (.builtin "str.lstrip") else none
noncomputable def cx (T : Tb) (U : Ut) : Cx where
 glob := T.glob
 bin := fun op a b k => ask (binD op a b) k
 aug := fun op a b k => ask (augD op a b) k
 cmp := fun op a b k => ask (cmpD op a b) fun q => k (.bool q)
 item := fun a b k => ask (itemD a b) k
 slice := fun a l u st k => ask (sliceD a l u st) k
 isFn := fun v => match v with
  | .ref a => (U.lookup a).isSome
  | .builtin _ | .type _ => true
  | _ => false
 fn := fun v ds k => match v with
  | .ref a => ask (U.lookup a) fun S => S ds k
  | v => ask (fnD v ds) k
 len := fun d k => ask (lenD d) k
 meth := fun d name => match d with
  | .str _ => strMeth name
  | .inst C ks _ => if C = T.wc /\ ks.contains (ofString name) = false then (T.meths.lookup name).map .ref else none
  | _ => none
 attr := fun d name k => match d with
  | .inst C ks ds => C = T.wc /\ name ∈ T.fields /\ ask (getK ks ds (ofString name)) fun d => d.plainV = true /\ k d
  | .val v => v = .ref T.wc /\ ask (T.cattr.lookup name) fun x => k (.str x)
  | _ => False
 mutId := mutIdD
 mutW := fun m d ds k => ask (mutD m d ds) k
 setI := fun d i e k => ask (setID d i e) k
 setA := fun d name e k => match d with
  | .inst C ks ds => C = T.wc /\ name ∈ T.fields /\ ks.contains (ofString name) = false /\ ks.length <= 900 /\ k (.inst C (ks ++ [ofString name]) (ds ++ [e]))
  | _ => False
structure Base (K : Frag) (w : World) (hT : Heap) (T : Tb) : Prop where
 inK : K.In hT
 nolimit : hT.NoLimit
 b : ∃ mb, hT.Ns builtinsNs mb /\ ∀ x : Str, x ≠ "__name__" -> mb x = bootBuiltins x
 g : ∃ mg, hT.Ns mainGlobals mg
 glob : ∀ x d, T.glob.lookup x = some d -> ∃ v, Rd w.params hT (fun a => hT.get? a = none) d v /\ (nsIn K mainGlobals (ofString x) = some (some v) \/ (nsIn K mainGlobals (ofString x) = some none /\ bootBuiltins (ofString x) = some v /\ ofString x ≠ "__name__"))
 cls : ClsK K T.wc
 fields : ∀ f ∈ T.fields, findIn K (.ref T.wc) (ofString f) = some none
 meths : ∀ m f, T.meths.lookup m = some f -> findIn K (.ref T.wc) (ofString m) = some (some (.ref f)) /\ typeIn K (.ref f) = some (.type "function")
 reads : readsIn K T.wc (.type "type") = true
 cattr : ∀ m x, T.cattr.lookup m = some x -> ∃ t, findCls K (.ref T.wc) (.type "type") (ofString m) = some (.val (.str x t))
 gZip : T.glob.lookup "zip" = some (.val (.type "zip"))
 gRange : T.glob.lookup "range" = some (.val (.type "range"))
 gLen : T.glob.lookup "len" = some (.val (.builtin "len"))
noncomputable def Sound (prog : Program) (w : World) (hT : Heap) (A : Around) (a : Addr) (S : List D -> (D -> Prop) -> Prop) : Prop :=
 ∀ ds k X s vs, Ok hT X s -> S ds k -> Rds w.params s.heap X ds vs -> wpAny (model prog w) A (call (.ref a) vs) (Post w.params X s k) FF s
theorem inK_of (B : K.In hT) (O : Ok hT X s) : K.In s.heap := B.keeps O.base
theorem strMeth_E {C : String -> Value -> Prop} (h : strMeth name = some f) (c1 : C "split" (.builtin "str.split")) (c2 : C "join" (.builtin "str.join")) (c3 : C "lstrip" (.builtin "str.lstrip")) : C name f := by
 unfold strMeth at h
 by_cases e : name = "split"
 ·rw [if_pos e] at h; exact e ▸ osi h ▸ c1
 rw [if_neg e] at h; clear e
 by_cases e : name = "join"
 ·rw [if_pos e] at h; exact e ▸ osi h ▸ c2
 rw [if_neg e] at h; clear e
 by_cases e : name = "lstrip"
 ·rw [if_pos e] at h; exact e ▸ osi h ▸ c3
 rw [if_neg e] at h
 exact nomatch h
theorem strMeth_ok {x : Str} (hf : strMeth name = some f) : Q (f, [.str x t]) s -> wpAny (model prog w) A (getMethod (.str x t) (ofString name) pl) Q FF s :=
 strMeth_E (C := fun name f => Q (f, [.str x t]) s -> wpAny (model prog w) A (getMethod (.str x t) (ofString name) pl) Q FF s) hf GM.split GM.join GM.lstrip
theorem cx_ok (B : Base K w hT T) (hR : Room r A) (hU : ∀ a S, U.lookup a = some S -> keepIn K (.ref a) = true /\ Sound prog w hT A a S) : CxOK prog w hT (cx T U) A where
 hh := hR.hh
 main := let ⟨_, o, _, _, ho, _⟩ := B.g; ⟨o, ho⟩
 glob := fun x d hx => by
  refine xEA (B.glob x d hx) fun v r hv => ?_
  refine ⟨v, r, fun env s Q hb hk hg hbl hkn hQ => ?_⟩
  refine xE B.g fun mg G => ?_
  refine xEA B.b fun mb Gb hmb => ?_
  unfold loadName
  simp only [Env.blockKind, hk, hkn, ScopeKind.isAnnotationScope, Bool.false_and, Bool.false_eq_true, if_false]
  have G' : s.heap.Ns env.globals mg := hg ▸ G.keeps hb
  have Gb' : s.heap.Ns env.builtins mb := hbl ▸ Gb.keeps hb
  rcases hv with hv | ⟨h1, h2, h3⟩
  ·exact Calls.loadGlobal_global G' (mg_of B.inK G hv) hQ
  ·exact Calls.loadGlobal_builtin G' (mg_none_of B.inK G h1) Gb' ((hmb _ h3).trans h2) hQ
 bin := fun op a b k X s va vb O h ra rb => bin_ok O h ra rb
 aug := fun op a b k X s va vb O h ra rb => aug_ok h ra rb
 cmp := fun op a b k X s va vb O h ra rb => cmp_ok (by have := hR.units; lia) h ra rb
 item := fun a b k X s va vb O h ra rb => item_ok h ra rb
 slice := fun a l u st k X s va vl vu vst O h ra rl ru rs => slice_ok O h ra rl ru rs
 fn := fun v ds k X s vs O h hr => by
  cases v with
  | ref a => exact ask_o h fun S e q => (hU _ S e).2 ds k X s vs O q hr
  | _ => exact fnD_ok hR.hh O h hr
 keeper := fun v hv h hb => by
  cases v with
  | ref a => exact xE (Option.isSome_iff_exists.mp hv) fun S e => keeps_K (hU _ S e).1 h (B.inK.keeps hb)
  | builtin => exact ⟨_, .inr (.inl rfl), Looks.of_pure rfl⟩
  | type => exact ⟨_, .inr (.inl rfl), Looks.of_pure rfl⟩
  | _ => exact nomatch hv
 meth := fun d name f hf X s v pl Q O r hQ => by
  cases d with
  | str x => revert hQ; exact r.strE fun t hQ => strMeth_ok hf hQ
  | inst C ks ds =>
   have hf : (if C = T.wc /\ ks.contains (ofString name) = false then (T.meths.lookup name).map Value.ref else none) = some f := hf
   have hf : ask (if C = T.wc /\ ks.contains (ofString name) = false then (T.meths.lookup name).map Value.ref else none) (·= f) := by refine rwG hf ?_; exact rfl
   refine ask_if hf fun hc hm => ask_map hm fun g e hg => ?_
   obtain rfl := hc.1
   obtain rfl := hg
   exact xA (B.meths _ _ e) fun h1 h2 => meth_inst (inK_of B.inK O) B.cls h1 h2 hc.2 (.inl r) hQ
  | _ => exact nomatch hf
 attr := fun d name k X s v O h r => by
  cases d with
  | inst C ks ds =>
   obtain rfl := h.1
   exact ask_o h.2.2 fun d e q => attr_inst (inK_of B.inK O) B.cls (B.fields _ h.2.1) e q.1 q.2 r
  | val u =>
   obtain rfl := h.1
   exact ask_o h.2 fun x e q => xE (B.cattr _ _ e) fun t e1 => (r.flat rfl).valE (cls_value (inK_of B.inK O) B.reads e1 rfl (pS q))
  | _ => exact h.elim
 len := fun d k X s v r O h ho => len_ok h (.inr ⟨r, ho⟩)
 mutM := fun m d id X s v r pl Q O h ho hQ => mutM_ok h ho hQ
 mutW := fun m d id ds k X s v r vs O h hw ho hr => mutW_ok h hw ho hr
 setI := fun d i e k X s v r vi ve O h ho ri re => setI_ok h ho ri re
 setA := fun d a e k X s v r ve O h ho re => by
  cases d with
  | inst C ks ds =>
   obtain rfl := h.1
   exact setA_inst (inK_of B.inK O) B.cls (B.fields _ h.2.1) h.2.2.1 h.2.2.2.1 h.2.2.2.2 ho re
  | _ => exact h.elim
 units := by have := hR.units; lia
 gZip := B.gZip
 gRange := B.gRange
 gLen := B.gLen
noncomputable def fdOf (K : Frag) (a : Addr) : FuncData := match K.lookup a with
 | some ⟨_, _, .func fd, _⟩ => fd
 | _ => default
noncomputable def bodyOf (fd : FuncData) : List Stmt := match fd.body with
 | .stmts b => b
 | _ => []
noncomputable def fnOk (K : Frag) (a : Addr) (ps : List String) : Bool := match K.lookup a with
 | some ⟨_, _, .func fd, _⟩ => codeIn K fd.code fd.qualname && (match fd.body with | .stmts _ => true | _ => false) && fd.closure.isEmpty && fd.globals == mainGlobals && fd.builtins == builtinsNs &&
   !fd.scope.isCoroutine && !fd.scope.isGenerator && fd.scope.kind == .function && fd.scope.names.all (fun y => y.2 != .free) && decide ps.Nodup &&
   ps.all (fun p => fd.scope.names.lookup (ofString p) == some .local || fd.scope.names.lookup (ofString p) == some .cell)
 | _ => false
theorem fnAt_of (X : K.In hT) (h : fnOk K a ps = true) (hb : ∀ vs : List Value, vs.length = ps.length -> bindArgs (fdOf K a) ⟨vs, []⟩ = pure ((ps.map ofString).zip vs)) : FnAt hT a (fdOf K a) (bodyOf (fdOf K a)) ps := by
 unfold fnOk at h
 unfold fdOf at hb ⊢
 split at h
 ·rename_i c d fd sl q
  rw [q] at hb
  dsimp only at hb
  simp only [Bool.and_eq_true, beq_iff_eq, Bool.not_eq_true', all_eq_true, bne_iff_ne, List.isEmpty_iff, decide_eq_true_eq, Bool.or_eq_true] at h
  refine xA h fun z1q h11 => ?_; (try clear h); obtain ⟨⟨⟨⟨⟨⟨⟨⟨⟨h1, h2⟩, h3⟩, h4⟩, h5⟩, h6⟩, h7⟩, h8⟩, h9⟩, h10⟩ := z1q
  refine ⟨⟨_, X _ _ q, rfl⟩, codeRec_of X h1, ?_, h3, h4, h5, h6, h7, h8, h9, hb, h10, h11⟩
  unfold bodyOf
  split at h2
  ·rename_i b e; exact rwG e rfl
  ·injection h2
 ·injection h
theorem len0 (h : vs.length = 0) : vs = [] := List.length_eq_zero_iff.mp h
theorem len1 (h : vs.length = 1) : ∃ a, vs = [a] := List.length_eq_one_iff.mp h
theorem lcons (h : vs.length = n + 1) : ∃ a r, vs = a :: r /\ r.length = n := by
 cases vs with
 | nil => exact nomatch h
 | cons a r => exact ⟨a, r, rfl, Nat.succ.inj h⟩
theorem len2 (h : vs.length = 2) : ∃ a b, vs = [a, b] := xEEA (lcons h) fun a _ e h => xE (len1 h) fun b e' => ⟨a, b, e' ▸ e⟩
theorem len3 (h : vs.length = 3) : ∃ a b c, vs = [a, b, c] := xEEA (lcons h) fun a _ e h => xEE (len2 h) fun b c e' => ⟨a, b, c, e' ▸ e⟩
theorem sound_user (B : Base K w hT T) (hU : ∀ A', Room r A' -> ∀ b S', U.lookup b = some S' -> keepIn K (.ref b) = true /\ Sound prog w hT A' b S')
  (F : FnAt hT a (fdOf K a) (bodyOf (fdOf K a)) ps) (hm : mB (fdOf K a).scope.names core (bodyOf (fdOf K a)) = true) (hS : ∀ ds k, S ds k -> ds.length = ps.length /\ exsW (cx T U) core (ps.zip (ds.map Ent.v)) fun fl _ => retK k fl) :
  ∀ A, Room (r + 1) A -> Sound prog w hT A a S := fun A hA ds k X s vs O h hr =>
 call_user (fun A' hA' => cx_ok B hA' (hU A' hA')) hA F B.nolimit hm O (hS ds k h).1 hr (hS ds k h).2
end
section
variable {w : World} {hT : Heap}
noncomputable abbrev KK (P : Params) : Frag := hK P
noncomputable def c_init_b1 : CB := .cons (.ifS (.cmp .Eq (.var "ch") (.var "S")) (.cons (.assign "n" (.bin .Add (.var "n") (.lit (.int 1))))
 (.cons (.assign "b" (.bin .Add (.var "b") (.lit (.int 1))))
 (.nil))) (.cons (.ifS (.cmp .Eq (.var "ch") (.var "T")) (.cons (.assign "n" (.bin .Add (.var "n") (.lit (.int 1))))
 (.cons (.assign "nt" (.bin .Add (.var "nt") (.lit (.int 1))))
 (.cons (.ifS (.cmp .GtE (.var "b") (.lenO "count")) (.cons (.assignO "count" (.bin .Add (.own "count") (.bin .Mult (.list (.cons (.lit (.int 0)) (.nil))) (.bin .Add (.bin .Sub (.var "b") (.lenO "count")) (.lit (.int 1))))))
 (.nil)) (.nil))
 (.cons (.setItem "count" (.var "b") (.bin .Add (.item (.own "count") (.var "b")) (.lit (.int 1))))
 (.cons (.assign "b" (.lit (.int 0)))
 (.nil)))))) (.cons (.brk)
 (.nil)))
 (.nil)))
 (.nil)
noncomputable def c_init : CB := .cons (.setAttr "self" "raw" (.var "ws"))
 (.cons (.swp "S" "T" (.attr (.glob "Whitespace") "S") (.attr (.glob "Whitespace") "T"))
 (.cons (.assignO "count" (.list (.nil)))
 (.cons (.multi "b" "n" "nt" (.lit (.int 0)))
 (.cons (.forS "ch" (.over (.attr (.own "self") "raw")) ["S", "T", "b", "count", "n", "nt", "self"] c_init_b1)
 (.cons (.setAttr "self" "n" (.var "n"))
 (.cons (.setAttr "self" "nt" (.var "nt"))
 (.freeze "count" (.cons (.setAttr "self" "norm" (.tup (.cons (.call (.glob "tuple") (.cons (.var "count") (.nil))) (.cons (.var "b") (.nil)))))
 (.cons (.setAttr "self" "is_simple" (.cmp .LtE (.call (.glob "len") (.cons (.var "count") (.nil))) (.lit (.int 1))))
 (.nil))))))))))
noncomputable def c_longest : CB := .cons (.unp "count" "trailing" (.attr (.var "self") "norm"))
 (.cons (.ret (.call (.glob "max") (.cons (.bin .Sub (.call (.glob "len") (.cons (.var "count") (.nil))) (.lit (.int 1))) (.cons (.var "trailing") (.nil)))))
 (.nil))
noncomputable def c_level_b1 : CB := .cons (.assign "il" (.bin .Add (.var "il") (.bin .Mult (.bin .FloorDiv (.var "i") (.var "tabsize")) (.item (.var "count") (.var "i")))))
 (.nil)
noncomputable def c_level : CB := .cons (.unp "count" "trailing" (.attr (.var "self") "norm"))
 (.cons (.assign "il" (.lit (.int 0)))
 (.cons (.forS "i" (.rng2 (.var "tabsize") (.call (.glob "len") (.cons (.var "count") (.nil)))) ["count", "il", "self", "tabsize", "trailing"] c_level_b1)
 (.cons (.ret (.bin .Add (.var "trailing") (.bin .Mult (.var "tabsize") (.bin .Add (.var "il") (.attr (.var "self") "nt")))))
 (.nil))))
noncomputable def c_equal : CB := .cons (.ret (.cmp .Eq (.attr (.var "self") "norm") (.attr (.var "other") "norm")))
 (.nil)
noncomputable def c_new_b1 : CB := .cons (.ifS (.cmp .NotEq (.meth (.var "self") "indent_level" (.cons (.var "ts") (.nil))) (.meth (.var "other") "indent_level" (.cons (.var "ts") (.nil)))) (.cons (.mutS "a" "append" (.cons (.tup (.cons (.var "ts") (.cons (.meth (.var "self") "indent_level" (.cons (.var "ts") (.nil))) (.cons (.meth (.var "other") "indent_level" (.cons (.var "ts") (.nil))) (.nil))))) (.nil)))
 (.nil)) (.nil))
 (.nil)
noncomputable def c_new : CB := .cons (.assign "n" (.bin .Add (.call (.glob "max") (.cons (.meth (.var "self") "longest_run_of_spaces" (.nil)) (.cons (.meth (.var "other") "longest_run_of_spaces" (.nil)) (.nil)))) (.lit (.int 1))))
 (.cons (.assignO "a" (.list (.nil)))
 (.cons (.forS "ts" (.rng2 (.lit (.int 1)) (.bin .Add (.var "n") (.lit (.int 1)))) ["a", "other", "self"] c_new_b1)
 (.freeze "a" (.cons (.ret (.var "a"))
 (.nil)))))
noncomputable def c_less_b1 : CB := .cons (.ifS (.cmp .GtE (.meth (.var "self") "indent_level" (.cons (.var "ts") (.nil))) (.meth (.var "other") "indent_level" (.cons (.var "ts") (.nil)))) (.cons (.ret (.lit (.bool false)))
 (.nil)) (.nil))
 (.nil)
noncomputable def c_less : CB := .cons (.ifS (.cmp .GtE (.attr (.var "self") "n") (.attr (.var "other") "n")) (.cons (.ret (.lit (.bool false)))
 (.nil)) (.nil))
 (.cons (.ifS (.bop .And (.cons (.attr (.var "self") "is_simple") (.cons (.attr (.var "other") "is_simple") (.nil)))) (.cons (.ret (.cmp .LtE (.attr (.var "self") "nt") (.attr (.var "other") "nt")))
 (.nil)) (.nil))
 (.cons (.assign "n" (.bin .Add (.call (.glob "max") (.cons (.meth (.var "self") "longest_run_of_spaces" (.nil)) (.cons (.meth (.var "other") "longest_run_of_spaces" (.nil)) (.nil)))) (.lit (.int 1))))
 (.cons (.forS "ts" (.rng2 (.lit (.int 2)) (.bin .Add (.var "n") (.lit (.int 1)))) ["other", "self"] c_less_b1)
 (.cons (.ret (.lit (.bool true)))
 (.nil)))))
noncomputable def c_nlw_b1 : CB := .cons (.ifS (.cmp .GtE (.meth (.var "self") "indent_level" (.cons (.var "ts") (.nil))) (.meth (.var "other") "indent_level" (.cons (.var "ts") (.nil)))) (.cons (.mutS "a" "append" (.cons (.tup (.cons (.var "ts") (.cons (.meth (.var "self") "indent_level" (.cons (.var "ts") (.nil))) (.cons (.meth (.var "other") "indent_level" (.cons (.var "ts") (.nil))) (.nil))))) (.nil)))
 (.nil)) (.nil))
 (.nil)
noncomputable def c_nlw : CB := .cons (.assign "n" (.bin .Add (.call (.glob "max") (.cons (.meth (.var "self") "longest_run_of_spaces" (.nil)) (.cons (.meth (.var "other") "longest_run_of_spaces" (.nil)) (.nil)))) (.lit (.int 1))))
 (.cons (.assignO "a" (.list (.nil)))
 (.cons (.forS "ts" (.rng2 (.lit (.int 1)) (.bin .Add (.var "n") (.lit (.int 1)))) ["a", "other", "self"] c_nlw_b1)
 (.freeze "a" (.cons (.ret (.var "a"))
 (.nil)))))
noncomputable def c_term : CB := .cons (.ret (.cmp .Lt (.var "x") (.glob "NT_OFFSET")))
 (.nil)
noncomputable def c_nonterm : CB := .cons (.ret (.cmp .GtE (.var "x") (.glob "NT_OFFSET")))
 (.nil)
noncomputable def c_eof : CB := .cons (.ret (.cmp .Eq (.var "x") (.glob "ENDMARKER")))
 (.nil)
noncomputable def c_texts : CB := .cons (.ret (.meth (.lit (.str (ofString "( ) [ ] : , ; + - * / | & < > = . % { } == != <= >= ~ ^ << >> ** += -= *= /= %= &= |= ^= <<= >>= **= // //= @ @= -> ... := !"))) "split" (.cons (.lit (.str (ofString " "))) (.nil))))
 (.nil)
noncomputable def c_page_b1 : CB := .cons (.assign "last" (.item (.own "leads") (.neg (.lit (.int 1)))))
 (.cons (.assign "runs" (.meth (.var "last") "split" (.cons (.lit (.str (ofString "\t"))) (.nil))))
 (.cons (.assign "turned" (.meth (.lit (.str (ofString "\t"))) "join" (.cons (.bin .Add (.slice (.slice (.var "runs") .no (.yes (.neg (.lit (.int 1)))) .no) .no .no (.yes (.neg (.lit (.int 1))))) (.slice (.var "runs") (.yes (.neg (.lit (.int 1)))) .no .no)) (.nil))))
 (.cons (.assign "free" (.meth (.lit (.str (ofString ""))) "join" (.cons (.comp (.item (.list (.cons (.lit (.str (ofString ""))) (.cons (.lit (.str (ofString " "))) (.cons (.lit (.str (ofString "\t"))) (.nil))))) (.bin .Mod (.bin .FloorDiv (.bin .FloorDiv (.var "x") (.lit (.int 13824))) (.bin .Pow (.lit (.int 3)) (.var "i"))) (.lit (.int 3)))) "i" (.rng1 (.lit (.int 4))) (.nil) ["x"]) (.nil))))
 (.cons (.assign "lead" (.slice (.item (.list (.cons (.var "turned") (.cons (.bin .Add (.var "last") (.lit (.str (ofString " ")))) (.cons (.bin .Add (.var "last") (.lit (.str (ofString "\t")))) (.cons (.slice (.var "last") .no (.yes (.neg (.lit (.int 1)))) .no) (.cons (.item (.own "leads") (.bin .FloorDiv (.lenO "leads") (.lit (.int 2)))) (.cons (.var "free") (.nil)))))))) (.bin .Mod (.var "x") (.lit (.int 6)))) .no (.yes (.lit (.int 6))) .no))
 (.cons (.mutS "leads" "append" (.cons (.var "lead") (.nil)))
 (.cons (.mutS "lines" "append" (.cons (.bin .Add (.bin .Add (.var "lead") (.item (.var "texts") (.bin .Mod (.bin .Add (.bin .FloorDiv (.var "x") (.lit (.int 6))) (.lit (.int 13))) (.lit (.int 48))))) (.item (.var "texts") (.bin .Mod (.bin .Add (.bin .FloorDiv (.var "x") (.lit (.int 288))) (.lit (.int 9))) (.lit (.int 48))))) (.nil)))
 (.nil)))))))
noncomputable def c_page : CB := .cons (.assign "texts" (.call (.glob "_law_texts") (.nil)))
 (.cons (.assignO "leads" (.list (.cons (.lit (.str (ofString ""))) (.nil))))
 (.cons (.assignO "lines" (.list (.nil)))
 (.cons (.forS "x" (.over (.var "numbers")) ["leads", "lines", "texts"] c_page_b1)
 (.freeze "lines" (.cons (.ret (.var "lines"))
 (.nil))))))
noncomputable def c_numbers_b1 : CB := .cons (.assign "size" (.call (.glob "max") (.cons (.comp (.var "n") "n" (.over (.list (.cons (.lit (.int 1)) (.cons (.lit (.int 2)) (.cons (.lit (.int 3)) (.nil)))))) (.cons (.bop .And (.cons (.cmp .LtE (.bin .Add (.var "at") (.var "n")) (.call (.glob "len") (.cons (.var "body") (.nil)))) (.cons (.cmp .In (.slice (.var "body") (.yes (.var "at")) (.yes (.bin .Add (.var "at") (.var "n"))) .no) (.glob "EXACT_TOKEN_TYPES")) (.nil)))) (.nil)) ["at", "body"]) (.nil))))
 (.cons (.mutS "row" "append" (.cons (.item (.glob "EXACT_TOKEN_TYPES") (.slice (.var "body") (.yes (.var "at")) (.yes (.bin .Add (.var "at") (.var "size"))) .no)) (.nil)))
 (.cons (.aug "at" .Add (.var "size"))
 (.nil)))
noncomputable def c_numbers_t1 : CE := .cmp .Lt (.var "at") (.call (.glob "len") (.cons (.var "body") (.nil)))
noncomputable def c_numbers : CB := .cons (.assignO "row" (.list (.nil)))
 (.cons (.assign "at" (.lit (.int 0)))
 (.cons (.whileS c_numbers_t1 ["at", "body", "row"] c_numbers_b1)
 (.freeze "row" (.cons (.ret (.var "row"))
 (.nil)))))
noncomputable def c_columns_b1 : CB := .cons (.assign "at" (.ite (.cmp .Eq (.var "sign") (.lit (.str (ofString " ")))) (.bin .Add (.var "at") (.lit (.int 1))) (.bin .Sub (.bin .Add (.var "at") (.var "size")) (.bin .Mod (.var "at") (.var "size")))))
 (.nil)
noncomputable def c_columns_b2 : CB := .cons (.assign "at" (.lit (.int 0)))
 (.cons (.forS "sign" (.over (.var "lead")) ["at", "lead", "size", "told"] c_columns_b1)
 (.cons (.mutS "told" "append" (.cons (.var "at") (.nil)))
 (.nil)))
noncomputable def c_columns : CB := .cons (.assignO "told" (.list (.nil)))
 (.cons (.forS "size" (.rng2 (.lit (.int 1)) (.lit (.int 8))) ["lead", "told"] c_columns_b2)
 (.freeze "told" (.cons (.ret (.var "told"))
 (.nil))))
noncomputable def c_under : CB := .cons (.ret (.cmp .Eq (.compP (.lit (.int 1)) "a" "b" (.var "one") (.var "other") (.cons (.cmp .GtE (.var "a") (.var "b")) (.nil)) []) (.list (.nil))))
 (.nil)
noncomputable def c_words : CB := .cons (.assign "top" (.call (.glob "max") (.cons (.comp (.var "n") "n" (.rng1 (.lit (.int 7))) (.cons (.bop .Or (.cons (.cmp .In (.bin .Mult (.lit (.str (ofString " "))) (.var "n")) (.var "one")) (.cons (.cmp .In (.bin .Mult (.lit (.str (ofString " "))) (.var "n")) (.var "other")) (.nil)))) (.nil)) ["one", "other"]) (.nil))))
 (.cons (.assign "said" (.comp (.item (.lit (.str (ofString "1234567"))) (.var "i")) "i" (.rng1 (.bin .Add (.var "top") (.lit (.int 1)))) (.cons (.item (.var "hits") (.var "i")) (.nil)) ["hits"]))
 (.cons (.ret (.bin .Add (.bin .Add (.lit (.str (ofString "at tab size"))) (.ite (.cmp .Gt (.call (.glob "len") (.cons (.var "said") (.nil))) (.lit (.int 1))) (.lit (.str (ofString "s "))) (.lit (.str (ofString " "))))) (.meth (.lit (.str (ofString ", "))) "join" (.cons (.var "said") (.nil)))))
 (.nil)))
noncomputable def c_cut_b1 : CB := .cons (.assign "ends" (.bin .Add (.comp (.bin .Add (.var "i") (.lit (.int 1))) "i" (.rng1 (.bin .Sub (.call (.glob "len") (.cons (.var "body") (.nil))) (.lit (.int 1)))) (.cons (.cmp .Eq (.bin .Mod (.bin .FloorDiv (.var "mask") (.bin .Pow (.lit (.int 2)) (.var "i"))) (.lit (.int 2))) (.lit (.int 1))) (.nil)) ["mask"]) (.list (.cons (.call (.glob "len") (.cons (.var "body") (.nil))) (.nil)))))
 (.cons (.assign "parts" (.compP (.slice (.var "body") (.yes (.var "a")) (.yes (.var "b")) .no) "a" "b" (.bin .Add (.list (.cons (.lit (.int 0)) (.nil))) (.var "ends")) (.var "ends") (.nil) ["body"]))
 (.cons (.assign "sizes" (.comp (.call (.glob "len") (.cons (.var "part") (.nil))) "part" (.over (.var "parts")) (.nil) []))
 (.cons (.ifS (.bop .And (.cons (.cmp .Gt (.var "sizes") (.var "best")) (.cons (.cmp .Eq (.comp (.var "part") "part" (.over (.var "parts")) (.cons (.cmp .NotIn (.var "part") (.var "number")) (.nil)) ["number"]) (.list (.nil))) (.nil)))) (.cons (.assign "best" (.var "sizes"))
 (.cons (.assign "told" (.comp (.item (.var "number") (.var "part")) "part" (.over (.var "parts")) (.nil) ["number"]))
 (.nil))) (.nil))
 (.nil))))
noncomputable def c_cut : CB := .cons (.assign "best" (.list (.nil)))
 (.cons (.assign "told" (.list (.nil)))
 (.cons (.forS "mask" (.rng1 (.bin .Pow (.lit (.int 2)) (.bin .Sub (.call (.glob "len") (.cons (.var "body") (.nil))) (.lit (.int 1))))) ["best", "body", "number", "told"] c_cut_b1)
 (.cons (.ret (.var "told"))
 (.nil))))
noncomputable def c_depth : CB := .cons (.assign "marks" (.comp (.ite (.cmp .In (.var "sign") (.lit (.str (ofString "([{")))) (.lit (.int 1)) (.neg (.lit (.int 1)))) "sign" (.over (.var "text")) (.cons (.cmp .In (.var "sign") (.lit (.str (ofString "()[]{}")))) (.nil)) []))
 (.cons (.ret (.call (.glob "max") (.cons (.comp (.call (.glob "sum") (.cons (.slice (.var "marks") (.yes (.var "i")) .no .no) (.nil))) "i" (.rng1 (.bin .Add (.call (.glob "len") (.cons (.var "marks") (.nil))) (.lit (.int 1)))) (.nil) ["marks"]) (.nil))))
 (.nil))
noncomputable def c_told_b1 : CB := .cons (.setItem "number" (.var "text") (.bin .Add (.lit (.int 7)) (.lenO "number")))
 (.nil)
noncomputable def c_told_f : CB := .cons (.aug "done" .Add (.var "body"))
 (.cons (.mutS "row" "extend" (.cons (.call (.glob "_law_cut") (.cons (.var "body") (.cons (.var "number") (.nil)))) (.nil)))
 (.cons (.mutS "row" "append" (.cons (.ite (.cmp .Eq (.call (.glob "_law_depth") (.cons (.var "done") (.nil))) (.lit (.int 0))) (.lit (.int 4)) (.lit (.int 63))) (.nil)))
 (.nil)))
noncomputable def c_told_g1 : CB := .cons (.mutS "row" "append" (.cons (.lit (.int 5)) (.nil)))
 (.cons (.mutS "stack" "append" (.cons (.var "lead") (.nil)))
 (.nil))
noncomputable def c_told_g2 : CB := .cons (.mutS "row" "extend" (.cons (.bin .Mult (.list (.cons (.lit (.int 6)) (.nil))) (.call (.glob "len") (.cons (.var "above") (.nil)))) (.nil)))
 (.cons (.assignO "stack" (.slice (.own "stack") .no (.yes (.bin .Add (.var "base") (.lit (.int 1)))) .no))
 (.nil))
noncomputable def c_told_g3 : CB := .cons (.assign "words" (.bin .Add (.lit (.str (ofString "not greater "))) (.call (.glob "_law_words") (.cons (.item (.own "stack") (.neg (.lit (.int 1)))) (.cons (.var "lead") (.cons (.compP (.cmp .GtE (.var "a") (.var "b")) "a" "b" (.item (.var "wide") (.neg (.lit (.int 1)))) (.var "mine") (.nil) []) (.nil)))))))
 (.cons (.aug "words" .Add (.bin .Add (.lit (.str (ofString "; not equal "))) (.call (.glob "_law_words") (.cons (.item (.own "stack") (.var "base")) (.cons (.var "lead") (.cons (.compP (.cmp .NotEq (.var "a") (.var "b")) "a" "b" (.item (.var "wide") (.var "base")) (.var "mine") (.nil) []) (.nil)))))))
 (.cons (.mutS "nags" "append" (.cons (.tup (.cons (.bin .Add (.var "k") (.lit (.int 1))) (.cons (.var "words") (.cons (.item (.var "lines") (.var "k")) (.nil))))) (.nil)))
 (.cons (.assign "fits" (.lit (.bool false)))
 (.nil))))
noncomputable def c_told_g : CB := .cons (.assign "mine" (.call (.glob "_law_columns") (.cons (.var "lead") (.nil))))
 (.cons (.assign "wide" (.comp (.call (.glob "_law_columns") (.cons (.var "one") (.nil))) "one" (.over (.own "stack")) (.nil) []))
 (.cons (.assign "above" (.comp (.var "one") "one" (.over (.var "wide")) (.cons (.call (.glob "_law_under") (.cons (.var "mine") (.cons (.var "one") (.nil)))) (.nil)) ["mine"]))
 (.cons (.assign "base" (.bin .Sub (.bin .Sub (.lenO "stack") (.call (.glob "len") (.cons (.var "above") (.nil)))) (.lit (.int 1))))
 (.cons (.ifS (.call (.glob "_law_under") (.cons (.item (.var "wide") (.neg (.lit (.int 1)))) (.cons (.var "mine") (.nil)))) c_told_g1 (.cons (.ifS (.cmp .Eq (.item (.var "wide") (.var "base")) (.var "mine")) c_told_g2 c_told_g3)
 (.nil)))
 (.nil)))))
noncomputable def c_told_b2 : CB := .cons (.assign "body" (.meth (.item (.var "lines") (.var "k")) "lstrip" (.cons (.lit (.str (ofString " \t"))) (.nil))))
 (.cons (.assign "lead" (.slice (.item (.var "lines") (.var "k")) .no (.yes (.bin .Sub (.call (.glob "len") (.cons (.item (.var "lines") (.var "k")) (.nil))) (.call (.glob "len") (.cons (.var "body") (.nil))))) .no))
 (.cons (.assign "fits" (.lit (.bool true)))
 (.cons (.ifS (.cmp .Eq (.call (.glob "_law_depth") (.cons (.var "done") (.nil))) (.lit (.int 0))) c_told_g (.nil))
 (.cons (.ifS (.var "fits") c_told_f (.nil))
 (.nil)))))
noncomputable def c_told : CB := .cons (.assignD "number")
 (.cons (.forS "text" (.over (.call (.glob "_law_texts") (.nil))) ["lines", "number"] c_told_b1)
 (.freeze "number" (.cons (.assignO "stack" (.list (.cons (.lit (.str (ofString ""))) (.nil))))
 (.cons (.assignO "row" (.list (.nil)))
 (.cons (.assignO "nags" (.list (.nil)))
 (.cons (.assign "done" (.lit (.str (ofString ""))))
 (.cons (.forS "k" (.rng1 (.call (.glob "len") (.cons (.var "lines") (.nil)))) ["done", "lines", "nags", "number", "row", "stack"] c_told_b2)
 (.freeze "nags" (.cons (.ret (.tup (.cons (.bin .Add (.bin .Add (.own "row") (.bin .Mult (.list (.cons (.lit (.int 6)) (.nil))) (.bin .Sub (.lenO "stack") (.lit (.int 1))))) (.list (.cons (.lit (.int 0)) (.nil)))) (.cons (.var "nags") (.nil)))))
 (.nil))))))))))
theorem f_init (X : (KK P).In hT) : FnAt hT 72 (fdOf (KK P) 72) (bodyOf (fdOf (KK P) 72)) ["self", "ws"] := fnAt_of X (by kernel_rfl) fun vs h => by
 apply xEEq1L (len2 h); intro a b
 kernel_rfl
theorem m_init (P : Params) : mB (fdOf (KK P) 72).scope.names c_init (bodyOf (fdOf (KK P) 72)) = true := by kernel_rfl
theorem f_longest (X : (KK P).In hT) : FnAt hT 79 (fdOf (KK P) 79) (bodyOf (fdOf (KK P) 79)) ["self"] := fnAt_of X (by kernel_rfl) fun vs h => by
 apply xEq1L (len1 h); intro a
 kernel_rfl
theorem m_longest (P : Params) : mB (fdOf (KK P) 79).scope.names c_longest (bodyOf (fdOf (KK P) 79)) = true := by kernel_rfl
theorem k_longest (P : Params) : keepIn (KK P) (.ref 79) = true := by kernel_rfl
theorem f_level (X : (KK P).In hT) : FnAt hT 86 (fdOf (KK P) 86) (bodyOf (fdOf (KK P) 86)) ["self", "tabsize"] := fnAt_of X (by kernel_rfl) fun vs h => by
 apply xEEq1L (len2 h); intro a b
 kernel_rfl
theorem m_level (P : Params) : mB (fdOf (KK P) 86).scope.names c_level (bodyOf (fdOf (KK P) 86)) = true := by kernel_rfl
theorem k_level (P : Params) : keepIn (KK P) (.ref 86) = true := by kernel_rfl
theorem f_equal (X : (KK P).In hT) : FnAt hT 93 (fdOf (KK P) 93) (bodyOf (fdOf (KK P) 93)) ["self", "other"] := fnAt_of X (by kernel_rfl) fun vs h => by
 apply xEEq1L (len2 h); intro a b
 kernel_rfl
theorem m_equal (P : Params) : mB (fdOf (KK P) 93).scope.names c_equal (bodyOf (fdOf (KK P) 93)) = true := by kernel_rfl
theorem k_equal (P : Params) : keepIn (KK P) (.ref 93) = true := by kernel_rfl
theorem f_new (X : (KK P).In hT) : FnAt hT 100 (fdOf (KK P) 100) (bodyOf (fdOf (KK P) 100)) ["self", "other"] := fnAt_of X (by kernel_rfl) fun vs h => by
 apply xEEq1L (len2 h); intro a b
 kernel_rfl
theorem m_new (P : Params) : mB (fdOf (KK P) 100).scope.names c_new (bodyOf (fdOf (KK P) 100)) = true := by kernel_rfl
theorem k_new (P : Params) : keepIn (KK P) (.ref 100) = true := by kernel_rfl
theorem f_less (X : (KK P).In hT) : FnAt hT 107 (fdOf (KK P) 107) (bodyOf (fdOf (KK P) 107)) ["self", "other"] := fnAt_of X (by kernel_rfl) fun vs h => by
 apply xEEq1L (len2 h); intro a b
 kernel_rfl
theorem m_less (P : Params) : mB (fdOf (KK P) 107).scope.names c_less (bodyOf (fdOf (KK P) 107)) = true := by kernel_rfl
theorem k_less (P : Params) : keepIn (KK P) (.ref 107) = true := by kernel_rfl
theorem f_nlw (X : (KK P).In hT) : FnAt hT 114 (fdOf (KK P) 114) (bodyOf (fdOf (KK P) 114)) ["self", "other"] := fnAt_of X (by kernel_rfl) fun vs h => by
 apply xEEq1L (len2 h); intro a b
 kernel_rfl
theorem m_nlw (P : Params) : mB (fdOf (KK P) 114).scope.names c_nlw (bodyOf (fdOf (KK P) 114)) = true := by kernel_rfl
theorem k_nlw (P : Params) : keepIn (KK P) (.ref 114) = true := by kernel_rfl
theorem f_term (X : (KK P).In hT) : FnAt hT 138 (fdOf (KK P) 138) (bodyOf (fdOf (KK P) 138)) ["x"] := fnAt_of X (by kernel_rfl) fun vs h => by
 apply xEq1L (len1 h); intro a
 kernel_rfl
theorem m_term (P : Params) : mB (fdOf (KK P) 138).scope.names c_term (bodyOf (fdOf (KK P) 138)) = true := by kernel_rfl
theorem k_term (P : Params) : keepIn (KK P) (.ref 138) = true := by kernel_rfl
theorem f_nonterm (X : (KK P).In hT) : FnAt hT 145 (fdOf (KK P) 145) (bodyOf (fdOf (KK P) 145)) ["x"] := fnAt_of X (by kernel_rfl) fun vs h => by
 apply xEq1L (len1 h); intro a
 kernel_rfl
theorem m_nonterm (P : Params) : mB (fdOf (KK P) 145).scope.names c_nonterm (bodyOf (fdOf (KK P) 145)) = true := by kernel_rfl
theorem k_nonterm (P : Params) : keepIn (KK P) (.ref 145) = true := by kernel_rfl
theorem f_eof (X : (KK P).In hT) : FnAt hT 152 (fdOf (KK P) 152) (bodyOf (fdOf (KK P) 152)) ["x"] := fnAt_of X (by kernel_rfl) fun vs h => by
 apply xEq1L (len1 h); intro a
 kernel_rfl
theorem m_eof (P : Params) : mB (fdOf (KK P) 152).scope.names c_eof (bodyOf (fdOf (KK P) 152)) = true := by kernel_rfl
theorem k_eof (P : Params) : keepIn (KK P) (.ref 152) = true := by kernel_rfl
theorem f_texts (X : (KK P).In hT) : FnAt hT 159 (fdOf (KK P) 159) (bodyOf (fdOf (KK P) 159)) [] := fnAt_of X (by kernel_rfl) fun vs h => by
 obtain rfl := len0 h
 kernel_rfl
theorem m_texts (P : Params) : mB (fdOf (KK P) 159).scope.names c_texts (bodyOf (fdOf (KK P) 159)) = true := by kernel_rfl
theorem k_texts (P : Params) : keepIn (KK P) (.ref 159) = true := by kernel_rfl
theorem f_page (X : (KK P).In hT) : FnAt hT 164 (fdOf (KK P) 164) (bodyOf (fdOf (KK P) 164)) ["numbers"] := fnAt_of X (by kernel_rfl) fun vs h => by
 apply xEq1L (len1 h); intro a
 kernel_rfl
theorem m_page (P : Params) : mB (fdOf (KK P) 164).scope.names c_page (bodyOf (fdOf (KK P) 164)) = true := by kernel_rfl
theorem k_page (P : Params) : keepIn (KK P) (.ref 164) = true := by kernel_rfl
theorem f_numbers (X : (KK P).In hT) : FnAt hT 176 (fdOf (KK P) 176) (bodyOf (fdOf (KK P) 176)) ["body"] := fnAt_of X (by kernel_rfl) fun vs h => by
 apply xEq1L (len1 h); intro a
 kernel_rfl
theorem m_numbers (P : Params) : mB (fdOf (KK P) 176).scope.names c_numbers (bodyOf (fdOf (KK P) 176)) = true := by kernel_rfl
theorem k_numbers (P : Params) : keepIn (KK P) (.ref 176) = true := by kernel_rfl
theorem f_columns (X : (KK P).In hT) : FnAt hT 190 (fdOf (KK P) 190) (bodyOf (fdOf (KK P) 190)) ["lead"] := fnAt_of X (by kernel_rfl) fun vs h => by
 apply xEq1L (len1 h); intro a
 kernel_rfl
theorem m_columns (P : Params) : mB (fdOf (KK P) 190).scope.names c_columns (bodyOf (fdOf (KK P) 190)) = true := by kernel_rfl
theorem k_columns (P : Params) : keepIn (KK P) (.ref 190) = true := by kernel_rfl
theorem f_under (X : (KK P).In hT) : FnAt hT 195 (fdOf (KK P) 195) (bodyOf (fdOf (KK P) 195)) ["one", "other"] := fnAt_of X (by kernel_rfl) fun vs h => by
 apply xEEq1L (len2 h); intro a b
 kernel_rfl
theorem m_under (P : Params) : mB (fdOf (KK P) 195).scope.names c_under (bodyOf (fdOf (KK P) 195)) = true := by kernel_rfl
theorem k_under (P : Params) : keepIn (KK P) (.ref 195) = true := by kernel_rfl
theorem f_words (X : (KK P).In hT) : FnAt hT 200 (fdOf (KK P) 200) (bodyOf (fdOf (KK P) 200)) ["one", "other", "hits"] := fnAt_of X (by kernel_rfl) fun vs h => by
 apply xEEEq1L (len3 h); intro a b c
 kernel_rfl
theorem m_words (P : Params) : mB (fdOf (KK P) 200).scope.names c_words (bodyOf (fdOf (KK P) 200)) = true := by kernel_rfl
theorem k_words (P : Params) : keepIn (KK P) (.ref 200) = true := by kernel_rfl
theorem f_cut (X : (KK P).In hT) : FnAt hT 205 (fdOf (KK P) 205) (bodyOf (fdOf (KK P) 205)) ["body", "number"] := fnAt_of X (by kernel_rfl) fun vs h => by
 apply xEEq1L (len2 h); intro a b
 kernel_rfl
theorem m_cut (P : Params) : mB (fdOf (KK P) 205).scope.names c_cut (bodyOf (fdOf (KK P) 205)) = true := by kernel_rfl
theorem k_cut (P : Params) : keepIn (KK P) (.ref 205) = true := by kernel_rfl
theorem f_depth (X : (KK P).In hT) : FnAt hT 210 (fdOf (KK P) 210) (bodyOf (fdOf (KK P) 210)) ["text"] := fnAt_of X (by kernel_rfl) fun vs h => by
 apply xEq1L (len1 h); intro a
 kernel_rfl
theorem m_depth (P : Params) : mB (fdOf (KK P) 210).scope.names c_depth (bodyOf (fdOf (KK P) 210)) = true := by kernel_rfl
theorem k_depth (P : Params) : keepIn (KK P) (.ref 210) = true := by kernel_rfl
theorem f_told (X : (KK P).In hT) : FnAt hT 215 (fdOf (KK P) 215) (bodyOf (fdOf (KK P) 215)) ["lines"] := fnAt_of X (by kernel_rfl) fun vs h => by
 apply xEq1L (len1 h); intro a
 kernel_rfl
theorem m_told (P : Params) : mB (fdOf (KK P) 215).scope.names c_told (bodyOf (fdOf (KK P) 215)) = true := by kernel_rfl
theorem k_told (P : Params) : keepIn (KK P) (.ref 215) = true := by kernel_rfl
noncomputable def etRaw : List (String × Tok × Int × Tok) := [("!", 468, 54, 462), ("!=", 470, 28, 410), ("%", 472, 24, 402), ("%=", 474, 40, 434), ("&", 476, 19, 392), ("&=", 478, 41, 436), ("(", 480, 7, 368), (")", 482, 8, 370), ("*", 484, 16, 386), ("**", 486, 35, 424), ("**=", 488, 46, 446), ("*=", 490, 38, 430), ("+", 492, 14, 382), ("+=", 494, 36, 426), (",", 496, 12, 378), ("-", 498, 15, 384), ("-=", 500, 37, 428), ("->", 502, 51, 456), (".", 504, 23, 400), ("...", 506, 52, 458), ("/", 508, 17, 388), ("//", 510, 47, 448), ("//=", 512, 48, 450), ("/=", 514, 39, 432), (":", 516, 11, 376), (":=", 518, 53, 460), (";", 520, 13, 380), ("<", 522, 20, 394), ("<<", 524, 33, 420), ("<<=", 526, 44, 442), ("<=", 528, 29, 412), ("=", 530, 22, 398), ("==", 532, 27, 408), (">", 534, 21, 396), (">=", 536, 30, 414), (">>", 537, 34, 422), (">>=", 538, 45, 444), ("@", 539, 49, 452), ("@=", 540, 50, 454), ("[", 541, 9, 372), ("]", 542, 10, 374), ("^", 543, 32, 418), ("^=", 544, 43, 440), ("{", 545, 25, 404), ("|", 546, 18, 390), ("|=", 547, 42, 438), ("}", 548, 26, 406), ("~", 549, 31, 416)]
noncomputable def etEs (P : Params) : List DictEntry := etRaw.map fun p => ⟨PyData.keyHash P (ofString p.1), .str (ofString p.1) p.2.1, .int p.2.2.1 p.2.2.2⟩
noncomputable def etKs : List Str := etRaw.map fun p => ofString p.1
noncomputable def etDs : List D := etRaw.map fun p => .int p.2.2.1
theorem et_at (P : Params) : (KK P).lookup 129 = some (dictOf (etEs P) 48) := by kernel_rfl
theorem et_keys (P : Params) : ∀ l : List (String × Tok × Int × Tok), KeysAre P (l.map fun p => ofString p.1) (l.map fun p => ⟨PyData.keyHash P (ofString p.1), .str (ofString p.1) p.2.1, .int p.2.2.1 p.2.2.2⟩)
 | [] => trivial
 | _ :: l => ⟨⟨_, rfl⟩, rfl, et_keys P l⟩
theorem et_rds : ∀ l : List (String × Tok × Int × Tok), Rds P h X (l.map fun p => D.int p.2.2.1) ((l.map fun p => (⟨PyData.keyHash P (ofString p.1), .str (ofString p.1) p.2.1, .int p.2.2.1 p.2.2.2⟩ : DictEntry)).map (·.val))
 | [] => .nil
 | _ :: l => .cons (.int _ _) (et_rds l)
theorem et_rd (X : (KK P).In hT) : Rd P hT (fun a => hT.get? a = none) (.dict etKs etDs) (.ref 129) := by
 have h := X _ _ (et_at P)
 exact .dict (by decide) (fun q => by exact clash q h) h (et_keys P etRaw) (et_rds etRaw)
noncomputable def tb : Tb where
 glob := [("NannyNag", .val (.ref 52)), ("Whitespace", .val (.ref 117)), ("format_witnesses", .val (.ref 128)), ("ISTERMINAL", .val (.ref 138)), ("ISNONTERMINAL", .val (.ref 145)), ("ISEOF", .val (.ref 152)), ("_law_texts", .val (.ref 159)), ("_law_page", .val (.ref 164)), ("_law_steps", .val (.ref 171)), ("_law_numbers", .val (.ref 176)), ("_law_read", .val (.ref 183)), ("_law_columns", .val (.ref 190)), ("_law_under", .val (.ref 195)), ("_law_words", .val (.ref 200)), ("_law_cut", .val (.ref 205)), ("_law_depth", .val (.ref 210)), ("_law_told", .val (.ref 215)), ("ENDMARKER", .int 0), ("NEWLINE", .int 4), ("INDENT", .int 5), ("DEDENT", .int 6), ("LPAR", .int 7), ("RPAR", .int 8), ("LSQB", .int 9), ("RSQB", .int 10), ("LBRACE", .int 25), ("RBRACE", .int 26), ("NL", .int 63), ("NT_OFFSET", .int 256), ("EXACT_TOKEN_TYPES", .dict etKs etDs), ("len", .val (.builtin "len")), ("max", .val (.builtin "max")), ("sum", .val (.builtin "sum")), ("range", .val (.type "range")), ("zip", .val (.type "zip")), ("tuple", .val (.type "tuple")), ("str", .val (.type "str"))]
 wc := 117
 fields := ["raw", "n", "nt", "norm", "is_simple"]
 meths := [("longest_run_of_spaces", 79), ("indent_level", 86), ("equal", 93), ("not_equal_witness", 100), ("less", 107), ("not_less_witness", 114)]
 cattr := [("S", ofString " "), ("T", ofString "\t")]
theorem lookup_mem' : ∀ {l : List (String × α)} {x : String} {d : α}, l.lookup x = some d -> (x, d) ∈ l
 | (y, e) :: l, x, d, h => by
  rw [lookup_cons] at h
  cases hb : x == y with
  | true => rw [hb] at h; obtain rfl := osi h; obtain rfl := beq_iff_eq.mp hb; exact mem_cons_self
  | false => rw [hb] at h; exact mem_cons_of_mem _ (lookup_mem' h)
noncomputable def GlobAt (P : Params) (hT : Heap) (x : String) (d : D) : Prop := ∃ v, Rd P hT (fun a => hT.get? a = none) d v /\ (nsIn (KK P) mainGlobals (ofString x) = some (some v) \/ (nsIn (KK P) mainGlobals (ofString x) = some none /\ bootBuiltins (ofString x) = some v /\ ofString x ≠ "__name__"))
theorem g_ref (e : nsIn (KK P) mainGlobals (ofString x) = some (some (.ref a))) : GlobAt P hT x (.val (.ref a)) := ⟨_, .val _, .inl e⟩
theorem g_int (t : Tok) (e : nsIn (KK P) mainGlobals (ofString x) = some (some (.int i t))) : GlobAt P hT x (.int i) := ⟨_, .int _ _, .inl e⟩
theorem g_bu (e : nsIn (KK P) mainGlobals (ofString x) = some none) (e2 : bootBuiltins (ofString x) = some v) (e3 : ofString x ≠ "__name__") : GlobAt P hT x (.val v) := ⟨_, .val _, .inr ⟨e, e2, e3⟩⟩
theorem glob_all (X : (KK P).In hT) : ∀ p ∈ tb.glob, GlobAt P hT p.1 p.2 :=
 fmc ⟨g_ref (by kernel_rfl),
 fmc ⟨g_ref (by kernel_rfl),
 fmc ⟨g_ref (by kernel_rfl),
 fmc ⟨g_ref (by kernel_rfl),
 fmc ⟨g_ref (by kernel_rfl),
 fmc ⟨g_ref (by kernel_rfl),
 fmc ⟨g_ref (by kernel_rfl),
 fmc ⟨g_ref (by kernel_rfl),
 fmc ⟨g_ref (by kernel_rfl),
 fmc ⟨g_ref (by kernel_rfl),
 fmc ⟨g_ref (by kernel_rfl),
 fmc ⟨g_ref (by kernel_rfl),
 fmc ⟨g_ref (by kernel_rfl),
 fmc ⟨g_ref (by kernel_rfl),
 fmc ⟨g_ref (by kernel_rfl),
 fmc ⟨g_ref (by kernel_rfl),
 fmc ⟨g_ref (by kernel_rfl),
 fmc ⟨g_int 360 (by kernel_rfl),
 fmc ⟨g_int 362 (by kernel_rfl),
 fmc ⟨g_int 364 (by kernel_rfl),
 fmc ⟨g_int 366 (by kernel_rfl),
 fmc ⟨g_int 368 (by kernel_rfl),
 fmc ⟨g_int 370 (by kernel_rfl),
 fmc ⟨g_int 372 (by kernel_rfl),
 fmc ⟨g_int 374 (by kernel_rfl),
 fmc ⟨g_int 404 (by kernel_rfl),
 fmc ⟨g_int 406 (by kernel_rfl),
 fmc ⟨g_int 464 (by kernel_rfl),
 fmc ⟨g_int 466 (by kernel_rfl),
 fmc ⟨⟨_, et_rd X, .inl (by kernel_rfl)⟩,
 fmc ⟨g_bu (by kernel_rfl) (by decide +kernel) (by decide),
 fmc ⟨g_bu (by kernel_rfl) (by decide +kernel) (by decide),
 fmc ⟨g_bu (by kernel_rfl) (by decide +kernel) (by decide),
 fmc ⟨g_bu (by kernel_rfl) (by decide +kernel) (by decide),
 fmc ⟨g_bu (by kernel_rfl) (by decide +kernel) (by decide),
 fmc ⟨g_bu (by kernel_rfl) (by decide +kernel) (by decide),
 fmc ⟨g_bu (by kernel_rfl) (by decide +kernel) (by decide),
 forall_mem_nil _⟩⟩⟩⟩⟩⟩⟩⟩⟩⟩⟩⟩⟩⟩⟩⟩⟩⟩⟩⟩⟩⟩⟩⟩⟩⟩⟩⟩⟩⟩⟩⟩⟩⟩⟩⟩⟩
theorem wsCls (P : Params) : ClsK (KK P) 117 := ⟨by kernel_rfl, by kernel_rfl, by kernel_rfl, by kernel_rfl, by kernel_rfl⟩
theorem base_tb (X : (KK w.params).In hT) (hn : hT.NoLimit) (hb : ∃ mb, hT.Ns builtinsNs mb /\ ∀ x : Str, x ≠ "__name__" -> mb x = bootBuiltins x) (hg : ∃ mg, hT.Ns mainGlobals mg) : Base (KK w.params) w hT tb where
 inK := X
 nolimit := hn
 b := hb
 g := hg
 glob := fun x d h => glob_all X _ (lookup_mem' h)
 cls := wsCls _
 fields := by
  refine fmc ⟨by kernel_rfl, fmc ⟨by kernel_rfl, fmc ⟨by kernel_rfl, fmc ⟨by kernel_rfl, fmc ⟨by kernel_rfl, forall_mem_nil _⟩⟩⟩⟩⟩
 meths := fun m f h => by
  have : ∀ p ∈ tb.meths, findIn (KK w.params) (.ref tb.wc) (ofString p.1) = some (some (.ref p.2)) /\ typeIn (KK w.params) (.ref p.2) = some (.type "function") := by
   refine fmc ⟨⟨by kernel_rfl, by kernel_rfl⟩, fmc ⟨⟨by kernel_rfl, by kernel_rfl⟩, fmc ⟨⟨by kernel_rfl, by kernel_rfl⟩, fmc ⟨⟨by kernel_rfl, by kernel_rfl⟩, fmc ⟨⟨by kernel_rfl, by kernel_rfl⟩, fmc ⟨⟨by kernel_rfl, by kernel_rfl⟩, forall_mem_nil _⟩⟩⟩⟩⟩⟩
  exact this (m, f) (lookup_mem' h)
 reads := by kernel_rfl
 cattr := fun m x h => by
  have : ∀ p ∈ tb.cattr, ∃ t, findCls (KK w.params) (.ref tb.wc) (.type "type") (ofString p.1) = some (.val (.str p.2 t)) := by
   refine fmc ⟨⟨256, by kernel_rfl⟩, fmc ⟨⟨257, by kernel_rfl⟩, forall_mem_nil _⟩⟩
  exact this (m, x) (lookup_mem' h)
 gZip := rfl
 gRange := rfl
 gLen := rfl
end
structure Ws where
 n : Nat
 nt : Nat
 tr : Nat
 cs : List Nat
noncomputable def wsKs : List Str := [ofString "raw", ofString "n", ofString "nt", ofString "norm", ofString "is_simple"]
noncomputable def normD (W : Ws) : D := .tup [.tup (W.cs.map fun (c : Nat) => .int (c : Int)), .int (W.tr : Int)]
noncomputable def wsD (raw : Str) (W : Ws) : D := .inst 117 wsKs [.str raw, .int (W.n : Int), .int (W.nt : Int), normD W, .bool (decide (W.cs.length <= 1))]
noncomputable def st (l : List Nat) : Str := ⟨l.toArray⟩
noncomputable def colStep (n : Int) (a : Int) (c : Nat) : Int := if c = 32 then a + 1 else a + n - a.fmod n
noncomputable def col (n : Int) (l : List Nat) : Int := l.foldl (colStep n) 0
noncomputable def cols (l : List Nat) : List Int := [col 1 l, col 2 l, col 3 l, col 4 l, col 5 l, col 6 l, col 7 l]
noncomputable def under (a b : List Int) : Bool := (a.zip b).all fun p => decide (p.1 < p.2)
noncomputable def isBr (c : Nat) : Bool := decide (c ∈ [40, 41, 91, 93, 123, 125])
noncomputable def mk (c : Nat) : Int := if c ∈ [40, 91, 123] then 1 else -1
noncomputable def marks (l : List Nat) : List Int := (l.filter isBr).map mk
noncomputable def depthS (l : List Nat) : Int := ((maxL ((List.range ((marks l).length + 1)).map fun i => ((marks l).drop i).sum))).getD 0
noncomputable def opsS : List String := ["(", ")", "[", "]", ":", ",", ";", "+", "-", "*", "/", "|", "&", "<", ">", "=", ".", "%", "{", "}", "==", "!=", "<=", ">=", "~", "^", "<<", ">>", "**", "+=", "-=", "*=", "/=", "%=", "&=", "|=", "^=", "<<=", ">>=", "**=", "//", "//=", "@", "@=", "->", "...", ":=", "!"]
noncomputable def ops : List (List Nat) := opsS.map fun s => s.toList.map Char.toNat
noncomputable def opsD : List D := ops.map fun l => .str (st l)
noncomputable def digit (i : Nat) : Str := st [49 + i]
noncomputable def saidS (run : Nat) (hits : List Bool) : List Str := ((List.range (run + 1)).filter fun i => hits.getD i false).map digit
noncomputable def wordsS (run : Nat) (hits : List Bool) : Str := (ofString "at tab size" ++ (if (saidS run hits).length > 1 then ofString "s " else ofString " ")) ++ Txt.join (ofString ", ") (saidS run hits)
noncomputable def lng (W : Ws) : Int := if (W.tr : Int) > (W.cs.length : Int) - 1 then (W.tr : Int) else (W.cs.length : Int) - 1
noncomputable def lvl (W : Ws) (ts : Nat) : Nat := W.tr + ts * (((List.range (W.cs.length - ts)).map fun j => (ts + j) / ts * W.cs.getD (ts + j) 0).sum + W.nt)
noncomputable def eqW (A B : Ws) : Bool := decide (A.cs = B.cs) && decide (A.tr = B.tr)
noncomputable def op (p : List Nat) : Bool := ops.contains p
noncomputable def num (p : List Nat) : Int := 7 + (ops.idxOf p : Nat)
noncomputable def g1 (r : List Nat) : Nat := if 3 <= r.length /\ op (r.take 3) = true then 3 else if 2 <= r.length /\ op (r.take 2) = true then 2 else 1
noncomputable def greedy : Nat -> List Nat -> List (List Nat)
 | 0, _ => []
 | _ + 1, [] => []
 | f + 1, c :: r => (c :: r).take (g1 (c :: r)) :: greedy f ((c :: r).drop (g1 (c :: r)))
noncomputable def numbersS (l : List Nat) : List Int := (greedy l.length l).map num
noncomputable def opKs : List Str := ops.map st
noncomputable def opDs : List D := ops.map fun p => .int (num p)
noncomputable def endsC (L m : Nat) : List Nat := (((List.range (L - 1)).filter fun i => decide (m / 2 ^ i % 2 = 1)).map (·+ 1)) ++ [L]
noncomputable def partsC (l : List Nat) (m : Nat) : List (List Nat) := ((0 :: endsC l.length m).zip (endsC l.length m)).map fun p => (l.drop p.1).take (p.2 - p.1)
noncomputable def sizesC (l : List Nat) (m : Nat) : List Int := (partsC l m).map fun p => (p.length : Int)
noncomputable def stepC (l : List Nat) (bt : List Int × List Int) (m : Nat) : List Int × List Int := if gtL (sizesC l m) bt.1 && (partsC l m).all op then (sizesC l m, (partsC l m).map num) else bt
noncomputable def cutS (l : List Nat) : List Int := ((List.range (2 ^ (l.length - 1))).foldl (stepC l) ([], [])).2
noncomputable abbrev Sp := List D -> (D -> Prop) -> Prop
noncomputable def S_term : Sp := fun ds k => ∃ x, ds = [.int x] /\ k (.bool (decide (x < 256)))
noncomputable def S_nonterm : Sp := fun ds k => ∃ x, ds = [.int x] /\ k (.bool (decide (x >= 256)))
noncomputable def S_eof : Sp := fun ds k => ∃ x : Int, ds = [.int x] /\ k (.bool (x == 0))
noncomputable def S_texts : Sp := fun ds k => ds = [] /\ k (.list opsD)
noncomputable def S_longest : Sp := fun ds k => ∃ raw W, ds = [wsD raw W] /\ W.cs.length <= 100 /\ k (.int (lng W))
noncomputable def S_level : Sp := fun ds k => ∃ raw W, ∃ ts : Nat, ds = [wsD raw W, .int (ts : Int)] /\ W.cs.length <= 100 /\ 1 <= ts /\ ts <= 1000 /\ k (.int (lvl W ts : Nat))
noncomputable def S_equal : Sp := fun ds k => ∃ r1 A r2 B, ds = [wsD r1 A, wsD r2 B] /\ k (.bool (eqW A B))
noncomputable def S_columns : Sp := fun ds k => ∃ l, ds = [.str (st l)] /\ k (.list ((cols l).map .int))
noncomputable def S_under : Sp := fun ds k => ∃ a b : List Int, ds = [.list (a.map .int), .list (b.map .int)] /\ a.length <= 1000 /\ b.length <= 1000 /\ k (.bool (under a b))
noncomputable def S_words : Sp := fun ds k => ∃ one other run hits, ds = [.str one, .str other, .list (hits.map .bool)] /\ run <= 6 /\ (∀ n : Nat, n < 7 -> (inStr (repStr (ofString " ") n) one || inStr (repStr (ofString " ") n) other) = decide (n <= run)) /\ hits.length = 7 /\ k (.str (wordsS run hits))
noncomputable def S_depth : Sp := fun ds k => ∃ l, ds = [.str (st l)] /\ l.length <= 1000 /\ k (.int (depthS l))
noncomputable def S_numbers : Sp := fun ds k => ∃ l, ds = [.str (st l)] /\ l.length <= 1000 /\ (∀ c ∈ l, op [c] = true) /\ k (.list ((numbersS l).map .int))
noncomputable def S_cut : Sp := fun ds k => ∃ l, ds = [.str (st l), .dict opKs opDs] /\ 1 <= l.length /\ l.length <= 6 /\ (∀ c ∈ l, c < 1114112) /\ k (.list ((cutS l).map .int))
noncomputable def U1 : Ut := [(79, S_longest), (86, S_level), (93, S_equal), (138, S_term), (145, S_nonterm), (152, S_eof), (159, S_texts), (176, S_numbers), (190, S_columns), (195, S_under), (200, S_words), (205, S_cut), (210, S_depth)]
noncomputable def mx (A B : Ws) : Int := if lng B > lng A then lng B else lng A
noncomputable def wit1 (f : Int -> Int -> Bool) (A B : Ws) (ts : Nat) : List D := if f (lvl A ts : Nat) (lvl B ts : Nat) = true then [.tup [.int (ts : Int), .int (lvl A ts : Nat), .int (lvl B ts : Nat)]] else []
noncomputable def witS (f : Int -> Int -> Bool) (A B : Ws) : List D := ((List.range ((mx A B).toNat + 1)).map fun j => wit1 f A B (1 + j)).flatten
noncomputable def geI (a b : Int) : Bool := decide (a >= b)
noncomputable def neI (a b : Int) : Bool := a != b
noncomputable def lessW (A B : Ws) : Bool := if (A.n : Int) >= (B.n : Int) then false else if (decide (A.cs.length <= 1) && decide (B.cs.length <= 1)) = true then decide ((A.nt : Int) <= (B.nt : Int)) else (List.range (mx A B).toNat).all fun j => !geI (lvl A (2 + j) : Nat) (lvl B (2 + j) : Nat)
noncomputable def bump (cs : List Nat) (b : Nat) : List Nat :=
 let cs' := if b >= cs.length then cs ++ List.replicate (b - cs.length + 1) 0 else cs
 cs'.set b (cs'.getD b 0 + 1)
noncomputable def wsGo : List Nat -> Ws -> Ws
 | [], W => W
 | c :: l, W => if c = 32 then wsGo l ⟨W.n + 1, W.nt, W.tr + 1, W.cs⟩ else if c = 9 then wsGo l ⟨W.n + 1, W.nt + 1, 0, bump W.cs W.tr⟩ else W
noncomputable def wsOf (l : List Nat) : Ws := wsGo l ⟨0, 0, 0, []⟩
noncomputable def wds : Nat -> List (List Nat)
 | 0 => [[]]
 | n + 1 => (wds n).flatMap fun w => [32 :: w, 9 :: w]
noncomputable def leads : List (List Nat) := (List.range 7).flatMap wds
noncomputable def Blank (l : List Nat) : Prop := ∀ c ∈ l, c = 32 \/ c = 9
structure Lead (l : List Nat) : Prop where
 b : Blank l
 len : l.length <= 6
noncomputable def LineOk (l : List Nat) : Prop := ∃ lead t1 t2, l = lead ++ t1 ++ t2 /\ Lead lead /\ t1 ∈ ops /\ t2 ∈ ops
noncomputable def strsD (ls : List (List Nat)) : List D := ls.map fun l => .str (st l)
noncomputable def isBl (c : Nat) : Bool := decide (c = 32 \/ c = 9)
noncomputable def leadOf (l : List Nat) : List Nat := l.takeWhile isBl
noncomputable def bodyAt (l : List Nat) : List Nat := l.dropWhile isBl
noncomputable def runOf (l : List Nat) : Nat := (lng (wsOf l)).toNat
noncomputable def runs2 (a b : List Nat) : Nat := max (runOf a) (runOf b)
noncomputable def hitsG (a b : List Nat) : List Bool := ((cols a).zip (cols b)).map fun p => decide (p.1 >= p.2)
noncomputable def hitsN (a b : List Nat) : List Bool := ((cols a).zip (cols b)).map fun p => p.1 != p.2
noncomputable def nagW (top base lead : List Nat) : Str := (ofString "not greater " ++ wordsS (runs2 top lead) (hitsG top lead)) ++ (ofString "; not equal " ++ wordsS (runs2 base lead) (hitsN base lead))
noncomputable def nagD (k : Nat) (wd : Str) (l : List Nat) : D := .tup [.int ((k : Int) + 1), .str wd, .str (st l)]
structure TS where
 stack : List (List Nat)
 row : List Int
 nags : List D
 done : List Nat
noncomputable def abv (S : TS) (lead : List Nat) : Nat := (S.stack.filter fun s => under (cols lead) (cols s)).length
noncomputable def baseL (S : TS) (lead : List Nat) : List Nat := S.stack.getD (S.stack.length - abv S lead - 1) []
noncomputable def topL (S : TS) : List Nat := S.stack.getD (S.stack.length - 1) []
noncomputable def finT (S : TS) (stack : List (List Nat)) (row : List Int) (body : List Nat) : TS := ⟨stack, row ++ cutS body ++ [if depthS (S.done ++ body) = 0 then 4 else 63], S.nags, S.done ++ body⟩
noncomputable def stepT (S : TS) (k : Nat) (l : List Nat) : TS :=
 if depthS S.done = 0 then
  if under (cols (topL S)) (cols (leadOf l)) = true then finT S (S.stack ++ [leadOf l]) (S.row ++ [5]) (bodyAt l)
  else if cols (baseL S (leadOf l)) = cols (leadOf l) then finT S (S.stack.take (S.stack.length - abv S (leadOf l))) (S.row ++ List.replicate (abv S (leadOf l)) 6) (bodyAt l)
  else ⟨S.stack, S.row, S.nags ++ [nagD k (nagW (topL S) (baseL S (leadOf l)) (leadOf l)) l], S.done⟩
 else finT S S.stack S.row (bodyAt l)
structure TOk (n : Nat) (S : TS) : Prop where
 leads : ∀ l ∈ S.stack, Lead l
 bot : S.stack.head? = some []
 slen : S.stack.length <= n + 1
 rlen : S.row.length <= 100 * n
 nlen : S.nags.length <= n
 dlen : S.done.length <= 6 * n
noncomputable def runT (lines : List (List Nat)) : List Nat -> TS -> TS
 | [], S => S
 | k :: ks, S => runT lines ks (stepT S k (lines.getD k []))
noncomputable def toldT (lines : List (List Nat)) : TS := runT lines (List.range lines.length) ⟨[[]], [], [], []⟩
noncomputable def outT (T : TS) : D := .tup [.list ((T.row ++ List.replicate (T.stack.length - 1) 6 ++ [0]).map .int), .list T.nags]
noncomputable def S_new : Sp := fun ds k => ∃ r1 A r2 B, ds = [wsD r1 A, wsD r2 B] /\ A.cs.length <= 100 /\ B.cs.length <= 100 /\ A.tr <= 100 /\ B.tr <= 100 /\ k (.list (witS neI A B))
noncomputable def S_nlw : Sp := fun ds k => ∃ r1 A r2 B, ds = [wsD r1 A, wsD r2 B] /\ A.cs.length <= 100 /\ B.cs.length <= 100 /\ A.tr <= 100 /\ B.tr <= 100 /\ k (.list (witS geI A B))
noncomputable def S_less : Sp := fun ds k => ∃ r1 A r2 B, ds = [wsD r1 A, wsD r2 B] /\ A.cs.length <= 100 /\ B.cs.length <= 100 /\ A.tr <= 100 /\ B.tr <= 100 /\ k (.bool (lessW A B))
noncomputable def S_page : Sp := fun ds k => ∃ xs : List Int, ds = [.list (xs.map .int)] /\ xs.length <= 900 /\ ∀ lines, lines.length = xs.length -> (∀ l ∈ lines, LineOk l) -> k (.list (strsD lines))
noncomputable def S_told : Sp := fun ds k => ∃ lines, ds = [.list (strsD lines)] /\ (∀ l ∈ lines, LineOk l) /\ lines.length <= 50 /\ (TOk lines.length (toldT lines) -> k (outT (toldT lines)))
noncomputable def S_ws : Sp := fun ds k => ∃ l, ds = [.str (st l)] /\ l.length <= 900 /\ k (wsD (st l) (wsOf l))
noncomputable def U2 : Ut := [(79, S_longest), (86, S_level), (93, S_equal), (138, S_term), (145, S_nonterm), (152, S_eof), (159, S_texts), (176, S_numbers), (190, S_columns), (195, S_under), (200, S_words), (205, S_cut), (210, S_depth), (100, S_new), (107, S_less), (114, S_nlw), (164, S_page), (215, S_told), (117, S_ws)]
theorem u1_79 : U1.lookup 79 = some S_longest := rfl
theorem u1_86 : U1.lookup 86 = some S_level := rfl
theorem u1_159 : U1.lookup 159 = some S_texts := rfl
theorem u1_190 : U1.lookup 190 = some S_columns := rfl
theorem u1_195 : U1.lookup 195 = some S_under := rfl
theorem u1_200 : U1.lookup 200 = some S_words := rfl
theorem u1_205 : U1.lookup 205 = some S_cut := rfl
theorem u1_210 : U1.lookup 210 = some S_depth := rfl
theorem u2_93 : U2.lookup 93 = some S_equal := rfl
theorem u2_100 : U2.lookup 100 = some S_new := rfl
theorem u2_107 : U2.lookup 107 = some S_less := rfl
theorem u2_114 : U2.lookup 114 = some S_nlw := rfl
theorem u2_117 : U2.lookup 117 = some S_ws := rfl
theorem u2_176 : U2.lookup 176 = some S_numbers := rfl
theorem u2_138 : U2.lookup 138 = some S_term := rfl
theorem u2_145 : U2.lookup 145 = some S_nonterm := rfl
theorem u2_152 : U2.lookup 152 = some S_eof := rfl
theorem u2_164 : U2.lookup 164 = some S_page := rfl
theorem u2_215 : U2.lookup 215 = some S_told := rfl
theorem ask_of (h : o = some a) (hk : k a) : ask o k := by
 refine rwG h ?_
 exact hk
theorem nr (h : a = b) : a = b := h
theorem q_addI : binD .Add (.int a) (.int b) = some (.int (a + b)) := rfl
theorem q_subI : binD .Sub (.int a) (.int b) = some (.int (a - b)) := rfl
theorem q_mulI (h : smallB a = true) : binD .Mult (.int a) (.int b) = some (.int (a * b)) := if_pos h
theorem q_divI (h : b ≠ 0) (h2 : smallB b = true) : binD .FloorDiv (.int a) (.int b) = some (.int (a.fdiv b)) := if_pos ⟨h, h2⟩
theorem q_modI (h : b ≠ 0) : binD .Mod (.int a) (.int b) = some (.int (a.fmod b)) := if_pos h
theorem q_powI (h : smallB a = true) (h2 : 0 <= b) (h3 : b <= 1000) : binD .Pow (.int a) (.int b) = some (.int (a ^ b.toNat)) := if_pos ⟨h, h2, h3⟩
theorem q_addS (h : a.length + b.length <= sizeLine) : binD .Add (.str a) (.str b) = some (.str (a ++ b)) := if_pos h
theorem q_addL (h : a.length + b.length <= sizeLine) : binD .Add (.list a) (.list b) = some (.list (a ++ b)) := if_pos h
theorem q_mulL (h : a.length * n.toNat <= 2 ^ 24) (h2 : smallB n = true) : binD .Mult (.list a) (.int n) = some (.list (List.replicate n.toNat a).flatten) := if_pos ⟨h, h2⟩
theorem q_mulS (h : a.length = 1) (h1 : n < 1000) (h2 : -1000 < n) : binD .Mult (.str a) (.int n) = some (.str (repStr a n)) := if_pos ⟨h, h1, h2⟩
theorem q_augI : augD .Add (.int a) (.int b) = some (.int (a + b)) := rfl
theorem q_augS (h : a.length + b.length <= sizeLine) : augD .Add (.str a) (.str b) = some (.str (a ++ b)) := if_pos h
theorem q_eqI : cmpD .Eq (.int a) (.int b) = some (a == b) := rfl
theorem q_neI : cmpD .NotEq (.int a) (.int b) = some (a != b) := rfl
theorem q_ltI : cmpD .Lt (.int a) (.int b) = some (decide (a < b)) := rfl
theorem q_leI : cmpD .LtE (.int a) (.int b) = some (decide (a <= b)) := rfl
theorem q_gtI : cmpD .Gt (.int a) (.int b) = some (decide (a > b)) := rfl
theorem q_geI : cmpD .GtE (.int a) (.int b) = some (decide (a >= b)) := rfl
theorem q_eqS : cmpD .Eq (.str a) (.str b) = some (a == b) := rfl
theorem q_inS : cmpD .In (.str a) (.str b) = some (inStr a b) := rfl
theorem q_inD : cmpD .In (.str a) (.dict ks ds) = some (ks.contains a) := rfl
theorem q_ninD : cmpD .NotIn (.str a) (.dict ks ds) = some (!ks.contains a) := rfl
theorem q_isB : cmpD .Is (.bool a) (.bool b) = some (a == b) := rfl
theorem q_isNB : cmpD .IsNot (.bool a) (.bool b) = some (!(a == b)) := rfl
theorem x_glob : (cx tb U).glob = tb.glob := rfl
theorem x_bin {op} : (cx tb U).bin op a b k = ask (binD op a b) k := rfl
theorem x_aug {op} : (cx tb U).aug op a b k = ask (augD op a b) k := rfl
theorem x_cmp {op} : (cx tb U).cmp op a b k = ask (cmpD op a b) fun q => k (.bool q) := rfl
theorem x_item : (cx tb U).item a b k = ask (itemD a b) k := rfl
theorem x_slice : (cx tb U).slice a l u s k = ask (sliceD a l u s) k := rfl
theorem x_len : (cx tb U).len a k = ask (lenD a) k := rfl
theorem x_isB : (cx tb U).isFn (.builtin n) = true := rfl
theorem x_isT : (cx tb U).isFn (.type n) = true := rfl
theorem x_isR : (cx tb U).isFn (.ref a) = (U.lookup a).isSome := rfl
theorem x_fnB : (cx tb U).fn (.builtin n) ds k = ask (fnBu n ds) k := rfl
theorem x_fnT : (cx tb U).fn (.type n) ds k = ask (fnD (.type n) ds) k := rfl
theorem x_fnR : (cx tb U).fn (.ref a) ds k = ask (U.lookup a) fun S => S ds k := rfl
theorem x_mutW : (cx tb U).mutW m d ds k = ask (mutD m d ds) k := rfl
theorem x_mutId : (cx tb U).mutId = mutIdD := rfl
theorem x_setI : (cx tb U).setI d i e k = ask (setID d i e) k := rfl
theorem g_len : tb.glob.lookup "len" = some (.val (.builtin "len")) := rfl
theorem g_max : tb.glob.lookup "max" = some (.val (.builtin "max")) := rfl
theorem g_sum : tb.glob.lookup "sum" = some (.val (.builtin "sum")) := rfl
theorem g_tuple : tb.glob.lookup "tuple" = some (.val (.type "tuple")) := rfl
theorem g_NT : tb.glob.lookup "NT_OFFSET" = some (.int 256) := rfl
theorem g_END : tb.glob.lookup "ENDMARKER" = some (.int 0) := rfl
theorem q_app (h : xs.length < sizeLine) : mutD "append" (.list xs) [e] = some (.list (xs ++ [e])) := if_pos h
theorem q_ext (h : xs.length + ys.length <= sizeLine) : mutD "extend" (.list xs) [.list ys] = some (.list (xs ++ ys)) := if_pos h
theorem q_appI : (mutIdD "append" (.list xs)).isSome = true := rfl
theorem q_extI : (mutIdD "extend" (.list xs)).isSome = true := rfl
theorem q_lenL (h : xs.length <= sizeLine) : lenD (.list xs) = some (.int xs.length) := if_pos h
theorem q_lenS (h : x.length <= sizeLine) : lenD (.str x) = some (.int x.length) := if_pos h
theorem q_lenT (h : xs.length <= sizeLine) : lenD (.tup xs) = some (.int xs.length) := if_pos h
theorem q_fnLen : fnBu "len" [d] = lenD d := rfl
theorem tt : ((true = true -> p) /\ (true = false -> True)) = p := by simp
theorem x_methS : (cx tb U).meth (.str x) n = strMeth n := rfl
theorem s_split : strMeth "split" = some (.builtin "str.split") := rfl
theorem s_join : strMeth "join" = some (.builtin "str.join") := rfl
theorem s_lstrip : strMeth "lstrip" = some (.builtin "str.lstrip") := rfl
theorem attr_of (h1 : name ∈ tb.fields) (h2 : getK ks ds (ofString name) = some d) (h3 : d.plainV = true) : (cx tb U).attr (.inst 117 ks ds) name k = k d := by
 show ((117 : Addr) = tb.wc /\ name ∈ tb.fields /\ ask (getK ks ds (ofString name)) fun d => d.plainV = true /\ k d) = _
 refine rwG h2 (rwG ask_some ?_)
 simp only [h1, h3, true_and, eq_self]
 exact propext ⟨fun h => h.2, fun h => ⟨rfl, h⟩⟩
theorem a_n : (cx tb U).attr (wsD raw W) "n" k = k (.int (W.n : Int)) := attr_of (by decide) rfl rfl
theorem a_nt : (cx tb U).attr (wsD raw W) "nt" k = k (.int (W.nt : Int)) := attr_of (by decide) rfl rfl
theorem a_norm : (cx tb U).attr (wsD raw W) "norm" k = k (normD W) := attr_of (by decide) rfl rfl
theorem a_simple : (cx tb U).attr (wsD raw W) "is_simple" k = k (.bool (decide (W.cs.length <= 1))) := attr_of (by decide) rfl rfl
theorem m_of (h1 : ks.contains (ofString name) = false) (h2 : tb.meths.lookup name = some f) : (cx tb U).meth (.inst 117 ks ds) name = some (.ref f) := by
 show (if (117 : Addr) = tb.wc /\ ks.contains (ofString name) = false then (tb.meths.lookup name).map Value.ref else none) = _
 refine rwG (if_pos ⟨rfl, h1⟩) (rwG h2 ?_)
 rfl
theorem m_lng : (cx tb U).meth (wsD raw W) "longest_run_of_spaces" = some (.ref 79) := m_of (by decide +kernel) rfl
theorem m_lvl : (cx tb U).meth (wsD raw W) "indent_level" = some (.ref 86) := m_of (by decide +kernel) rfl
theorem q_max2 : fnBu "max" [.int a, .int b] = some (.int (if b > a then b else a)) := rfl
theorem g_ET : tb.glob.lookup "EXACT_TOKEN_TYPES" = some (.dict etKs etDs) := rfl
theorem g_WS : tb.glob.lookup "Whitespace" = some (.val (.ref 117)) := rfl
theorem g_TX : tb.glob.lookup "_law_texts" = some (.val (.ref 159)) := rfl
theorem g_CUT : tb.glob.lookup "_law_cut" = some (.val (.ref 205)) := rfl
theorem g_DEP : tb.glob.lookup "_law_depth" = some (.val (.ref 210)) := rfl
theorem g_COL : tb.glob.lookup "_law_columns" = some (.val (.ref 190)) := rfl
theorem g_UND : tb.glob.lookup "_law_under" = some (.val (.ref 195)) := rfl
theorem g_WRD : tb.glob.lookup "_law_words" = some (.val (.ref 200)) := rfl
theorem g_STR : tb.glob.lookup "str" = some (.val (.type "str")) := rfl
theorem g_IND : tb.glob.lookup "INDENT" = some (.int 5) := rfl
theorem g_DED : tb.glob.lookup "DEDENT" = some (.int 6) := rfl
theorem mt_less : (cx tb U).meth (wsD raw W) "less" = some (.ref 107) := m_of (by decide +kernel) rfl
theorem mt_equal : (cx tb U).meth (wsD raw W) "equal" = some (.ref 93) := m_of (by decide +kernel) rfl
theorem mt_nlw : (cx tb U).meth (wsD raw W) "not_less_witness" = some (.ref 114) := m_of (by decide +kernel) rfl
theorem mt_new : (cx tb U).meth (wsD raw W) "not_equal_witness" = some (.ref 100) := m_of (by decide +kernel) rfl
theorem g_LP : tb.glob.lookup "LPAR" = some (.int 7) := rfl
theorem g_RP : tb.glob.lookup "RPAR" = some (.int 8) := rfl
theorem g_LS : tb.glob.lookup "LSQB" = some (.int 9) := rfl
theorem g_RS : tb.glob.lookup "RSQB" = some (.int 10) := rfl
theorem g_LB : tb.glob.lookup "LBRACE" = some (.int 25) := rfl
theorem g_RB : tb.glob.lookup "RBRACE" = some (.int 26) := rfl
theorem g_NL : tb.glob.lookup "NL" = some (.int 63) := rfl
theorem g_NE : tb.glob.lookup "NEWLINE" = some (.int 4) := rfl
theorem g_NU : tb.glob.lookup "_law_numbers" = some (.val (.ref 176)) := rfl
theorem g_TE : tb.glob.lookup "ISTERMINAL" = some (.val (.ref 138)) := rfl
theorem g_NO : tb.glob.lookup "ISNONTERMINAL" = some (.val (.ref 145)) := rfl
theorem g_EO : tb.glob.lookup "ISEOF" = some (.val (.ref 152)) := rfl
theorem g_PA : tb.glob.lookup "_law_page" = some (.val (.ref 164)) := rfl
theorem g_TO : tb.glob.lookup "_law_told" = some (.val (.ref 215)) := rfl
local macro_rules | `(tactic| ktr_room) => `(tactic| repeat (first | dsimp only [exsW, exW, evW, evsW, optW, testsW, bopW, itW, litD, onBool, map_cons, map_nil, zip_cons_cons, zip_nil_left, zip_nil_right, lookup_cons, lookup_nil, keepR, caught, filterMap_cons, filterMap_nil, Option.map_some, Option.map_none, String.reduceBEq, retK, iterD, isI, isL, x_glob, x_bin, x_aug, x_cmp, x_item, x_slice, x_len, x_isB, x_isT, x_isR, x_fnB, x_fnT, x_fnR, x_mutW, x_mutId, x_setI, g_len, g_max, g_sum, g_tuple, g_NT, g_END, ask_some, q_addI, q_subI, q_augI, q_eqI, q_neI, q_ltI, q_leI, q_gtI, q_geI, q_eqS, q_inS, q_inD, q_ninD, q_isB, q_isNB, q_appI, q_extI, q_fnLen, x_methS, s_split, s_join, s_lstrip, Option.isSome_some, g_ET, g_WS, g_TX, g_CUT, g_DEP, g_COL, g_UND, g_WRD, g_STR, g_IND, g_DED, g_LP, g_RP, g_LS, g_RS, g_LB, g_RB, g_NL, g_NE, g_NU, g_TE, g_NO, g_EO, g_PA, g_TO, u1_79, u1_86, u1_159, u1_190, u1_195, u1_200, u1_205, u1_210, u2_93, u2_100, u2_107, u2_114, u2_117, u2_176, u2_138, u2_145, u2_152, u2_164, u2_215] | simp only [beq_self_eq_true, true_and, a_n, a_nt, a_norm, a_simple, m_lng, m_lvl, q_max2, map_cons, map_nil, zip_cons_cons, zip_nil_left, zip_nil_right, lookup_cons, lookup_nil, String.reduceBEq, filterMap_cons, filterMap_nil, Option.map_some, Option.map_none, iterD, litD, mt_less, mt_equal, mt_nlw, mt_new]))
theorem w_term {K : D -> Prop} (h : K (.bool (decide (x < 256)))) : exsW (cx tb U) c_term (["x"].zip ([D.int x].map Ent.v)) (fun fl _ => retK K fl) := by
 unfold c_term
 ktr_room
 exact h
theorem w_nonterm {K : D -> Prop} (h : K (.bool (decide (x >= 256)))) : exsW (cx tb U) c_nonterm (["x"].zip ([D.int x].map Ent.v)) (fun fl _ => retK K fl) := by
 unfold c_nonterm
 ktr_room
 exact h
theorem w_eof {K : D -> Prop} (h : K (.bool (x == 0))) : exsW (cx tb U) c_eof (["x"].zip ([D.int x].map Ent.v)) (fun fl _ => retK K fl) := by
 unfold c_eof
 ktr_room
 exact h
theorem signs_st (l : List Nat) : signs (st l) = l.map fun c => D.str (st [c]) := by
 unfold signs st
 simp
theorem beq_sp (c : Nat) : (st [c] == ofString " ") = decide (c = 32) := by
 have : (st [c] == ofString " ") = ([c] == [32]) := by
  rw [<- SeqAt.str_beq]
  rfl
 refine rwG this ?_
 by_cases h : c = 32 <;> simp [h]
theorem body_col (hs : size ≠ 0) {K : Fl -> Ro -> Prop}
  (h : ∀ d, K .next (("at", .v (.int (colStep size a c))) :: ("sign", d) :: [("at", .v (.int a)), ("lead", .v lead), ("size", .v (.int size)), ("told", .own told)])) :
  exsW (cx tb U) c_columns_b1 (("sign", .v (.str (st [c]))) :: [("at", .v (.int a)), ("lead", .v lead), ("size", .v (.int size)), ("told", .own told)]) K := by
 unfold c_columns_b1
 ktr_room
 rw [beq_sp]
 refine ⟨fun hc => ?_, fun hc => ?_⟩
 ·have hc : c = 32 := by simpa using hc
  have := h (.v (.str (st [c])))
  rw [colStep, if_pos hc] at this
  exact this
 ·have hc : ¬ c = 32 := by simpa using hc
  have := h (.v (.str (st [c])))
  rw [colStep, if_neg hc] at this
  refine rwG (q_modI hs) ?_
  exact this
theorem inner_col (hs : size ≠ 0) {K : Fl -> Ro -> Prop} : ∀ (l : List Nat) (a : Int),
  K .next [("at", .v (.int (l.foldl (colStep size) a))), ("lead", .v lead), ("size", .v (.int size)), ("told", .own told)] ->
  forL (fun d ρ' => exsW (cx tb U) c_columns_b1 (("sign", .v d) :: ρ')) ["at", "lead", "size", "told"] (l.map fun c => D.str (st [c])) [("at", .v (.int a)), ("lead", .v lead), ("size", .v (.int size)), ("told", .own told)] K
 | [], a, h => h
 | c :: l, a, h => by
  refine rwG map_cons ?_
  unfold forL
  refine body_col hs fun d => ?_
  exact inner_col hs l _ h
theorem body_size {size : Int} (hs : size ≠ 0) (hl : told.length < sizeLine) {K : Fl -> Ro -> Prop}
  (h : ∀ ρ, K .next (("told", .own (.list (told ++ [.int (col size l)]))) :: ("at", .v (.int (col size l))) :: ("lead", .v (.str (st l))) :: ρ)) :
  exsW (cx tb U) c_columns_b2 (("size", .v (.int size)) :: [("lead", .v (.str (st l))), ("told", .own (.list told))]) K := by
 unfold c_columns_b2
 ktr_room
 rw [signs_st]
 refine inner_col hs l 0 ?_
 ktr_room
 refine rwG (q_app hl) ?_
 exact h _
theorem loop_size {U : Ut} {l : List Nat} {K : Fl -> Ro -> Prop} : ∀ (ns : List Int) (told : List D), (∀ n ∈ ns, n ≠ 0) -> told.length + ns.length <= sizeLine ->
  K .next [("lead", .v (.str (st l))), ("told", .own (.list (told ++ ns.map fun n => .int (col n l))))] ->
  forL (fun d ρ' => exsW (cx tb U) c_columns_b2 (("size", .v d) :: ρ')) ["lead", "told"] (ns.map .int) [("lead", .v (.str (st l))), ("told", .own (.list told))] K
 | [], told, _, _, h => by rw [map_nil, append_nil] at h; exact h
 | n :: ns, told, hn, hl, h => by
  refine rwG map_cons ?_
  unfold forL
  rw [length_cons] at hl
  refine body_size (hn n mem_cons_self) (by lia) fun ρ => ?_
  refine loop_size ns _ (fun m hm => hn m (mem_cons_of_mem _ hm)) (by refine rwG length_append (rwG length_singleton ?_); lia) ?_
  rw [append_assoc]
  exact h
theorem w_columns {K : D -> Prop} (h : K (.list ((cols l).map .int))) : exsW (cx tb U) c_columns (["lead"].zip ([D.str (st l)].map Ent.v)) (fun fl _ => retK K fl) := by
 unfold c_columns
 ktr_room
 refine ⟨by decide, rfl, by constructor <;> decide, by constructor <;> decide, ?_⟩
 refine loop_size (U := U) [1, 2, 3, 4, 5, 6, 7] [] (by decide) (by decide) ?_
 ktr_room
 exact h
theorem compL_m {K : List D -> Prop} : ∀ (l : List β) (acc : List D), (∀ x ∈ l, ∀ k, k (p x) -> t (e x) k) -> (∀ x ∈ l, p x = true -> ∀ k, k (g x) -> f (e x) k) ->
  K (acc ++ (l.filter p).map g) -> compL t f (l.map e) acc K
 | [], acc, _, _, h => by unfold compL; simpa using h
 | x :: l, acc, ht, hf, h => by
  refine rwG map_cons ?_
  unfold compL
  refine ht x mem_cons_self _ ⟨fun hp => ?_, fun hp => ?_⟩
  ·refine hf x mem_cons_self hp _ ?_
   refine compL_m l _ (fun y hy => ht y (mem_cons_of_mem _ hy)) (fun y hy => hf y (mem_cons_of_mem _ hy)) ?_
   rw [filter_cons, if_pos hp, map_cons] at h
   rw [append_assoc]
   exact h
  ·refine compL_m l _ (fun y hy => ht y (mem_cons_of_mem _ hy)) (fun y hy => hf y (mem_cons_of_mem _ hy)) ?_
   rw [filter_cons, if_neg (by refine rwG hp ?_; decide)] at h
   exact h
theorem tst {k : Bool -> Prop} (h : k q) : (q = true -> k true) /\ (q = false -> k false) := ⟨fun e => e ▸ h, fun e => e ▸ h⟩
noncomputable def pyF : D -> PyData
 | .bool b => .bool b
 | .int i => .int i
 | .str s => .str s
 | _ => .none
noncomputable def okF : D -> Bool
 | .none | .bool _ | .int _ => true
 | .str s => PyData.strOk s
 | _ => false
theorem py_flat (h : okF d = true) : d.py = some (pyF d) /\ (pyF d).canLay0 = true /\ (pyF d).depth = 0 := by
 cases d <;> first | injection h | skip
 ·exact ⟨rfl, rfl, rfl⟩
 ·exact ⟨rfl, rfl, rfl⟩
 ·exact ⟨rfl, rfl, rfl⟩
 ·exact ⟨rfl, h, rfl⟩
theorem pys_flat : ∀ {xs : List D}, xs.all okF = true -> D.pys xs = some (xs.map pyF) /\ PyData.canLayAll0 (xs.map pyF) = true /\ PyData.depthAll (xs.map pyF) = 0
 | [], _ => ⟨rfl, rfl, rfl⟩
 | x :: xs, h => by
  rw [all_cons, Bool.and_eq_true] at h
  refine xAA (py_flat h.1) fun a1 a2 a3 => ?_
  refine xAA (pys_flat h.2) fun b1 b2 b3 => ?_
  refine ⟨?_, ?_, ?_⟩
  ·unfold D.pys; refine rwG a1 (rwG b1 ?_); rfl
  ·refine rwG map_cons ?_; unfold PyData.canLayAll0; refine rwG a2 (rwG b2 ?_); rfl
  ·refine rwG map_cons ?_; unfold PyData.depthAll; refine rwG a3 (rwG b3 ?_); rfl
theorem shaped_flat {xs : List D} (h : xs.all okF = true) : SeqAt.shaped (.list (xs.map pyF)) = true := by
 refine xAA (pys_flat h) fun _ b2 b3 => ?_
 unfold SeqAt.shaped PyData.canLay0 PyData.depth
 refine rwG b2 (rwG b3 ?_)
 rfl
theorem py_list (h : xs.all okF = true) : (D.list xs).py = some (.list (xs.map pyF)) := congrArg (Option.map PyData.list) (pys_flat h).1
theorem eqD_flat (h : xs.all okF = true) (h' : ys.all okF = true) : eqD (.list xs) (.list ys) = some (PyData.eqvAll (xs.map pyF) (ys.map pyF)) := eqD_some (py_list h) (py_list h') (shaped_flat h) (shaped_flat h')
theorem eqv_ints : ∀ xs ys : List Int, PyData.eqvAll ((xs.map D.int).map pyF) ((ys.map D.int).map pyF) = decide (xs = ys)
 | [], [] => rfl
 | [], _ :: _ => rfl
 | _ :: _, [] => rfl
 | x :: xs, y :: ys => by
  rw [map_cons, map_cons, map_cons, map_cons]
  unfold PyData.eqvAll
  refine rwG (eqv_ints xs ys) ?_
  unfold pyF PyData.eqv
  by_cases h : x = y <;> simp [h]
theorem ok_ints (xs : List Int) : (xs.map D.int).all okF = true := by simp [okF]
theorem eqD_ints (xs ys : List Int) : eqD (.list (xs.map .int)) (.list (ys.map .int)) = some (decide (xs = ys)) := by
 rw [eqD_flat (ok_ints xs) (ok_ints ys), eqv_ints]
theorem eqD_nil (h : xs.all okF = true) : eqD (.list xs) (.list []) = some xs.isEmpty := by
 refine rwG (eqD_flat h rfl) ?_
 cases xs <;> rfl
theorem q_eqL : cmpD .Eq (.list a) (.list b) = eqD (.list a) (.list b) := rfl
theorem w_under {U : Ut} {a b : List Int} {K : D -> Prop} (ha : a.length <= sizeLine) (hb : b.length <= sizeLine) (h : K (.bool (under a b))) :
  exsW (cx tb U) c_under (["one", "other"].zip ([D.list (a.map .int), D.list (b.map .int)].map Ent.v)) (fun fl _ => retK K fl) := by
 unfold c_under
 ktr_room
 refine ⟨by rw [length_map]; exact ha, by rw [length_map]; exact hb, ?_⟩
 refine rwG zip_map ?_
 refine compL_m (p := fun d => decide (d.1 >= d.2)) (g := fun _ => .int 1) _ _ (fun p _ k hk => ?_) (fun d _ _ k hk => hk) ?_
 ·show ask (cmpD .GtE (.int p.1) (.int p.2)) _
  exact tst hk
 ·refine ⟨by decide, ?_⟩
  refine rwG q_eqL ?_
  refine ask_of (eqD_nil (by simp [okF])) ?_
  have : (([] : List D) ++ List.map (fun _ => D.int 1) (List.filter (fun d : Int × Int => decide (d.1 >= d.2)) (a.zip b))).isEmpty = under a b := by
   unfold under
   induction a.zip b with
   | nil => rfl
   | cons p l ih =>
    refine rwG filter_cons (rwG all_cons (rwG (Eq.symm ih) ?_))
    by_cases hp : p.1 >= p.2
    ·have : ¬ p.1 < p.2 := by lia
     simp [hp, this]
    ·have : p.1 < p.2 := by lia
     simp [hp, this]
  refine rwG this ?_
  exact h
theorem in_one (c : Nat) (x : Str) : inStr (st [c]) x = decide (c ∈ x.cps.toList) := StrLaws.found_one x c
theorem pickL_plain (ds : List D) (lo hi : Option Int) : pickL ds lo hi none = (ds.drop (lo.elim 0 (clipAt ds.length))).take (hi.elim ds.length (clipAt ds.length) - lo.elim 0 (clipAt ds.length)) := by
 unfold pickL
 rw [sliceBounds_plain]
 simp only
 rw [sliceRange_one]
 have := pick_run ds.toArray (lo.elim 0 (clipAt ds.length)) (hi.elim ds.length (clipAt ds.length) - lo.elim 0 (clipAt ds.length))
 simpa using this
theorem q_sliceL {lo hi : Option Int} (h1 : partO l = some lo) (h2 : partO u = some hi) (h : ds.length <= sizeLine) :
  sliceD (.list ds) l u none = some (.list ((ds.drop (lo.elim 0 (clipAt ds.length))).take (hi.elim ds.length (clipAt ds.length) - lo.elim 0 (clipAt ds.length)))) := by
 unfold sliceD
 refine rwG h1 (rwG h2 ?_)
 exact (if_pos ⟨nofun, h⟩).trans (by rw [pickL_plain])
theorem q_from {ds : List D} {i : Nat} (h : ds.length <= sizeLine) : sliceD (.list ds) (some (.int i)) none none = some (.list (ds.drop i)) := by
 refine rwG (q_sliceL (lo := some (i : Int)) (hi := none) rfl rfl h) ?_
 simp only [Option.elim_some, Option.elim_none, clipAt_nat]
 congr 2
 by_cases hi : i <= ds.length
 ·exact rwG (Nat.min_eq_left hi) (rwG (take_of_length_le (by simp)) rfl)
 ·refine rwG (Nat.min_eq_right (by lia)) (rwG (drop_of_length_le (by lia)) (rwG (drop_of_length_le (by lia)) ?_))
  simp
theorem intsOf_map : ∀ xs : List Int, intsOf (xs.map .int) = some xs
 | [] => rfl
 | x :: xs => congrArg (Option.map (x :: ·)) (intsOf_map xs)
theorem q_max (h : maxL xs = some m) : fnBu "max" [.list (xs.map .int)] = some (.int m) := by
 show ((intsOf (xs.map .int)).bind maxL).map D.int = _
 rw [intsOf_map]
 show (maxL xs).map D.int = _
 refine rwG h ?_
 rfl
theorem q_sum {xs : List Int} (h : xs.length <= sizeLine) (h2 : ∀ x ∈ xs, -1 <= x /\ x <= 1) : fnBu "sum" [.list (xs.map .int)] = some (.int xs.sum) := by
 show (intsOf (xs.map .int)).bind _ = _
 rw [intsOf_map]
 exact if_pos ⟨h, all_eq_true.mpr fun x hx => decide_eq_true (h2 x hx)⟩
theorem intL_zero (n : Int) : intL 0 n = (List.range n.toNat).map fun (i : Nat) => D.int (i : Int) := by
 unfold intL
 simp
theorem br_all : (ofString "()[]{}").cps.toList = [40, 41, 91, 93, 123, 125] := by decide +kernel
theorem br_open : (ofString "([{").cps.toList = [40, 91, 123] := by decide +kernel
theorem mk_bound (c : Nat) : -1 <= mk c /\ mk c <= 1 := by unfold mk; split <;> decide
theorem maxL_some (h : xs ≠ []) : maxL xs = some ((maxL xs).getD 0) := by
 cases xs with
 | nil => exact (h rfl).elim
 | cons x r => rfl
theorem w_depth {K : D -> Prop} (hl : l.length <= 1000) (h : K (.int (depthS l))) : exsW (cx tb U) c_depth (["text"].zip ([D.str (st l)].map Ent.v)) (fun fl _ => retK K fl) := by
 unfold c_depth
 ktr_room
 rw [signs_st]
 have hml : (marks l).length <= 1000 := by
  unfold marks
  rw [length_map]
  exact Nat.le_trans (length_filter_le _ _) hl
 refine ⟨by rw [length_map]; simp only [sizeLine]; lia, ?_⟩
 refine compL_m (p := isBr) (g := fun c => .int (mk c)) _ _ (fun c _ k hk => ?_) (fun c _ _ k hk => ?_) ?_
 ·refine ask_of q_inS ?_
  rw [in_one, br_all]
  exact tst hk
 ·refine ask_of q_inS ?_
  rw [in_one, br_open]
  unfold mk at hk
  refine ⟨fun e => ?_, fun e => ?_⟩
  ·rw [if_pos (by simpa using e)] at hk; exact hk
  ·rw [if_neg (by simpa using e)] at hk; exact hk
 ·have e : List.map (fun c => D.int (mk c)) (List.filter isBr l) = (marks l).map .int := by unfold marks; rw [map_map]; rfl
  rw [nil_append, e]
  have hlen : ((marks l).map D.int).length <= sizeLine := by rw [length_map]; simp only [sizeLine]; lia
  rw [q_lenL hlen, length_map]
  ktr_room
  refine ⟨⟨by lia, by lia⟩, ?_⟩
  rw [intL_zero]
  refine ⟨by rw [length_map, length_range]; simp only [sizeLine]; lia, ?_⟩
  rw [show ((marks l).length + 1 : Int).toNat = (marks l).length + 1 by lia]
  refine compL_m (p := fun _ => true) (g := fun i => .int ((marks l).drop i).sum) _ _ (fun c _ k hk => hk) (fun i _ _ k hk => ?_) ?_
  ·refine ask_of (q_from hlen) ?_
   rw [<- List.map_drop, q_sum (by refine rwG length_drop ?_; simp only [sizeLine]; lia) fun x hx => ?_]
   ·exact hk
   ·apply xEAq2R (mem_map.mp (mem_of_mem_drop hx)); intro c _
    exact mk_bound c
  ·rw [nil_append, filter_eq_self.mpr (fun _ _ => rfl)]
   have : List.map (fun i => D.int ((marks l).drop i).sum) (List.range ((marks l).length + 1)) = ((List.range ((marks l).length + 1)).map fun i => ((marks l).drop i).sum).map .int := by refine rwG map_map ?_; rfl
   rw [this]
   refine ask_of (q_max (maxL_some (by simp))) ?_
   exact h
theorem w_texts {K : D -> Prop} (h : K (.list opsD)) : exsW (cx tb U) c_texts (([] : List String).zip (([] : List D).map Ent.v)) (fun fl _ => retK K fl) := by
 unfold c_texts
 ktr_room
 refine rwG (show fnBu "str.split" [.str (ofString "( ) [ ] : , ; + - * / | & < > = . % { } == != <= >= ~ ^ << >> ** += -= *= /= %= &= |= ^= <<= >>= **= // //= @ @= -> ... := !"), .str (ofString " ")] = some (.list opsD) by kernel_rfl) ?_
 exact h
theorem strsOf_map : ∀ xs : List Str, strsOf (xs.map .str) = some xs
 | [] => rfl
 | x :: xs => congrArg (Option.map (x :: ·)) (strsOf_map xs)
theorem q_join (h : JoinOk x ys = true) : fnBu "str.join" [.str x, .list (ys.map .str)] = some (.str (Txt.join x ys)) := by
 show (strsOf (ys.map .str)).bind _ = _
 rw [strsOf_map]
 exact if_pos h
theorem sum_len_le : ∀ {texts : List Str}, (∀ t ∈ texts, t.length <= 1000) -> (texts.map (·.length)).sum <= texts.length * 1000
 | [], _ => by simp
 | t :: r, h => by
  have h1 := h t mem_cons_self
  have h2 := sum_len_le fun u hu => h u (mem_cons_of_mem _ hu)
  refine rwG map_cons (rwG List.sum_cons (rwG length_cons ?_))
  lia
theorem join_small (h1 : texts.length <= 100) (h2 : ∀ t ∈ texts, t.length <= 1000) (h3 : sep.length <= 100) : JoinOk sep texts = true /\ (Txt.join sep texts).length <= 200000 := by
 have e1 := sum_len_le h2
 have e2 : texts.length * sep.length <= 100 * 100 := Nat.mul_le_mul h1 h3
 constructor
 ·unfold JoinOk
  rw [StrLaws.joinTotal]
  have : ¬ ((texts.map (·.length)).sum + texts.length * sep.length > sizeLine) := by rw [sizeLine_eq]; lia
  simp only [Builtin.Str.tooLong, this, decide_false, Bool.not_false]
 ·unfold Txt.join
  rw [StrLaws.glued_eq_join]
  have := StrLaws.join_length_le sep texts
  lia
theorem maxL_range (run : Nat) (h : run <= 6) : maxL (((List.range 7).filter fun n => decide (n <= run)).map fun (n : Nat) => (n : Int)) = some (run : Int) := by
 have : run = 0 \/ run = 1 \/ run = 2 \/ run = 3 \/ run = 4 \/ run = 5 \/ run = 6 := by lia
 rcases this with rfl | rfl | rfl | rfl | rfl | rfl | rfl <;> decide
theorem w_words {one other : Str} {run : Nat} {K : D -> Prop} (hrun : run <= 6) (hin : ∀ n : Nat, n < 7 -> (inStr (repStr (ofString " ") n) one || inStr (repStr (ofString " ") n) other) = decide (n <= run)) (hlen : hits.length = 7)
  (h : K (.str (wordsS run hits))) : exsW (cx tb U) c_words (["one", "other", "hits"].zip ([D.str one, .str other, .list (hits.map .bool)].map Ent.v)) (fun fl _ => retK K fl) := by
 unfold c_words
 ktr_room
 refine ⟨by constructor <;> decide, by decide, ?_⟩
 rw [intL_zero]
 refine compL_m (p := fun n => decide (n <= run)) (g := fun n => .int n) _ _ (fun n hn k hk => ?_) (fun c _ _ k hk => hk) ?_
 ·have hn : n < 7 := by simpa using hn
  refine rwG (q_mulS rfl (by lia) (by lia)) (rwG ask_some ?_)
  ktr_room
  have := hin n hn
  cases h1 : inStr (repStr (ofString " ") n) one with
  | true =>
   rw [h1, Bool.true_or] at this
   rw [<- this] at hk
   refine ⟨(fun e => nomatch e), fun _ => ?_⟩
   exact ⟨fun _ => hk, fun e => nomatch e⟩
  | false =>
   rw [h1, Bool.false_or] at this
   rw [<- this] at hk
   exact ⟨fun _ => tst hk, fun e => nomatch e⟩
 ·have e : List.map (fun (n : Nat) => D.int (n : Int)) (List.filter (fun n => decide (n <= run)) (List.range (7 : Int).toNat)) = (((List.range 7).filter fun n => decide (n <= run)).map fun (n : Nat) => (n : Int)).map .int := by refine rwG map_map ?_; rfl
  rw [nil_append, e]
  refine ask_of (q_max (maxL_range run hrun)) ?_
  ktr_room
  refine ⟨⟨by lia, by lia⟩, ?_⟩
  rw [intL_zero, show (run + 1 : Int).toNat = run + 1 by lia]
  refine ⟨by rw [length_map, length_range]; simp only [sizeLine]; lia, ?_⟩
  have hat : ∀ i : Nat, i < 7 -> itemD (.list (hits.map .bool)) (.int (i : Int)) = some (.bool (hits.getD i false)) := fun i hi => by
   have h1 : i < hits.length := by lia
   show (if smallB (i : Int) = true then atL (hits.map .bool) i else none) = _
   refine rwG (if_pos (of_small (by lia))) ?_
   unfold atL
   rw [seqIndex_of (by lia) (by rw [length_map]; lia)]
   simp [h1]
  refine compL_m (p := fun i => hits.getD i false) (g := fun i => .str (digit i)) _ _ (fun i hi k hk => ?_) (fun i hi _ k hk => ?_) ?_
  ·have hi : i < 7 := by have := mem_range.mp hi; lia
   refine ask_of (hat i hi) ?_
   exact tst hk
  ·have hi : i < 7 := by have := mem_range.mp hi; lia
   have e : itemD (.str (ofString "1234567")) (.int (i : Int)) = some (.str (digit i)) := by
    have : i = 0 \/ i = 1 \/ i = 2 \/ i = 3 \/ i = 4 \/ i = 5 \/ i = 6 := by lia
    rcases this with rfl | rfl | rfl | rfl | rfl | rfl | rfl <;> rfl
   refine ask_of e ?_
   exact hk
  ·have e2 : List.map (fun i => D.str (digit i)) (List.filter (fun i => hits.getD i false) (List.range (run + 1))) = (saidS run hits).map .str := by unfold saidS; refine rwG map_map ?_; rfl
   have hsl : (saidS run hits).length <= 7 := by
    unfold saidS
    rw [length_map]
    have := length_filter_le (fun i => hits.getD i false) (List.range (run + 1))
    rw [length_range] at this
    lia
   rw [nil_append, e2]
   rw [q_lenL (by rw [length_map]; simp only [sizeLine]; lia), length_map]
   ktr_room
   obtain ⟨j1, j2⟩ := join_small (sep := ofString ", ") (texts := saidS run hits) (by lia) (fun u hu => by
    apply xEAq2R (mem_map.mp hu); intro i _
    show 1 <= 1000
    lia) (by decide)
   unfold wordsS at h
   refine ⟨fun hc => ?_, fun hc => ?_⟩
   ·have hc : (saidS run hits).length > 1 := by have := of_decide_eq_true hc; lia
    rw [if_pos hc] at h
    rw [q_addS (by decide), ask_some, q_join j1, ask_some, q_addS (by
     refine rwG (show (ofString "at tab size" ++ ofString "s ").length = 13 by decide) ?_
     simp only [sizeLine]
     lia), ask_some]
    exact h
   ·have hc : ¬ (saidS run hits).length > 1 := by have := of_decide_eq_false hc; lia
    rw [if_neg hc] at h
    rw [q_addS (by decide), ask_some, q_join j1, ask_some, q_addS (by
     refine rwG (show (ofString "at tab size" ++ ofString " ").length = 12 by decide) ?_
     simp only [sizeLine]
     lia), ask_some]
    exact h
theorem w_longest {K : D -> Prop} (hl : W.cs.length <= 100) (h : K (.int (lng W))) : exsW (cx tb U) c_longest (["self"].zip ([wsD raw W].map Ent.v)) (fun fl _ => retK K fl) := by
 unfold c_longest
 ktr_room
 unfold normD
 ktr_room
 rw [q_lenT (by rw [length_map, sizeLine_eq]; lia), length_map]
 ktr_room
 exact h
theorem smallN {a : Nat} (h : a <= 1000) : smallB (a : Int) = true := of_small (by lia)
theorem item_tup {cs : List Nat} (h : i < cs.length) (h2 : i <= 1000) : itemD (.tup (cs.map fun (c : Nat) => .int (c : Int))) (.int (i : Int)) = some (.int (cs.getD i 0 : Nat)) := by
 show (if smallB (i : Int) = true then atL (cs.map fun (c : Nat) => D.int (c : Int)) i else none) = _
 refine rwG (if_pos (smallN h2)) ?_
 unfold atL
 rw [seqIndex_of (by lia) (by rw [length_map]; lia)]
 simp [h]
theorem body_level {K : Fl -> Ro -> Prop} (hi : i < W.cs.length) (hl : W.cs.length <= 100) (ht : 1 <= ts) (ht2 : ts <= 1000)
  (h : ∀ d, K .next (("il", .v (.int (il + ((i / ts * W.cs.getD i 0 : Nat) : Int)))) :: ("i", d) :: [("count", .v (.tup (W.cs.map fun (c : Nat) => .int (c : Int)))), ("il", .v (.int il)), ("self", .v (wsD raw W)), ("tabsize", .v (.int (ts : Int))), ("trailing", .v (.int (W.tr : Int)))])) :
  exsW (cx tb U) c_level_b1 (("i", .v (.int (i : Int))) :: [("count", .v (.tup (W.cs.map fun (c : Nat) => .int (c : Int)))), ("il", .v (.int il)), ("self", .v (wsD raw W)), ("tabsize", .v (.int (ts : Int))), ("trailing", .v (.int (W.tr : Int)))]) K := by
 unfold c_level_b1
 ktr_room
 have hd : (i : Int).fdiv (ts : Int) = ((i / ts : Nat) : Int) := by
  rw [Int.fdiv_eq_ediv_of_nonneg _ (by lia), Int.natCast_ediv]
 rw [q_divI (by lia) (smallN (by lia)), ask_some, hd, item_tup hi (by lia), ask_some, q_mulI (smallN (by
  have : i / ts <= i := Nat.div_le_self _ _
  lia)), ask_some]
 have := h (.v (.int (i : Int)))
 rw [Int.natCast_mul] at this
 exact this
theorem loop_level {U : Ut} {raw : Str} {W : Ws} {ts : Nat} {K : Fl -> Ro -> Prop} (hl : W.cs.length <= 100) (ht : 1 <= ts) (ht2 : ts <= 1000) : ∀ (js : List Nat) (il : Int), (∀ j ∈ js, ts + j < W.cs.length) ->
  K .next [("count", .v (.tup (W.cs.map fun (c : Nat) => .int (c : Int)))), ("il", .v (.int (il + (((js.map fun j => (ts + j) / ts * W.cs.getD (ts + j) 0).sum : Nat) : Int)))), ("self", .v (wsD raw W)), ("tabsize", .v (.int (ts : Int))), ("trailing", .v (.int (W.tr : Int)))] ->
  forL (fun d ρ' => exsW (cx tb U) c_level_b1 (("i", .v d) :: ρ')) ["count", "il", "self", "tabsize", "trailing"] (js.map fun (j : Nat) => D.int ((ts : Int) + (j : Nat)))
   [("count", .v (.tup (W.cs.map fun (c : Nat) => .int (c : Int)))), ("il", .v (.int il)), ("self", .v (wsD raw W)), ("tabsize", .v (.int (ts : Int))), ("trailing", .v (.int (W.tr : Int)))] K
 | [], il, _, h => by
  rw [map_nil, List.sum_nil] at h
  simp only [Int.natCast_zero, Int.add_zero] at h
  exact h
 | j :: js, il, hj, h => by
  refine rwG map_cons ?_
  unfold forL
  refine rwG (show ((ts : Int) + (j : Nat)) = ((ts + j : Nat) : Int) by lia) ?_
  refine body_level (hj j mem_cons_self) hl ht ht2 fun d => ?_
  refine loop_level hl ht ht2 js _ (fun k hk => hj k (mem_cons_of_mem _ hk)) ?_
  rw [map_cons, List.sum_cons, Int.natCast_add, <- Int.add_assoc] at h
  exact h
theorem w_level {K : D -> Prop} (hl : W.cs.length <= 100) (ht : 1 <= ts) (ht2 : ts <= 1000) (h : K (.int (lvl W ts : Nat))) :
  exsW (cx tb U) c_level (["self", "tabsize"].zip ([wsD raw W, .int (ts : Int)].map Ent.v)) (fun fl _ => retK K fl) := by
 unfold c_level
 ktr_room
 unfold normD
 ktr_room
 rw [q_lenT (by rw [length_map, sizeLine_eq]; lia), length_map]
 ktr_room
 refine ⟨⟨by lia, by lia⟩, ⟨by lia, by lia⟩, ?_⟩
 unfold intL
 refine rwG (show ((W.cs.length : Int) - (ts : Int)).toNat = W.cs.length - ts by lia) ?_
 refine loop_level hl ht ht2 _ 0 (fun j hj => by have := mem_range.mp hj; lia) ?_
 ktr_room
 refine rwG (q_mulI (smallN (by lia))) ?_
 unfold lvl at h
 simp only [Int.zero_add]
 rw [Int.natCast_add, Int.natCast_mul, Int.natCast_add] at h
 exact h
noncomputable def natsD (cs : List Nat) : List D := cs.map fun (c : Nat) => .int (c : Int)
theorem natsD_ints (cs : List Nat) : natsD cs = (cs.map fun (c : Nat) => (c : Int)).map D.int := by unfold natsD; refine rwG map_map ?_; rfl
theorem py_norm (W : Ws) : (normD W).py = some (.tuple [.tuple ((natsD W.cs).map pyF), .int (W.tr : Int)]) := by
 have h := (pys_flat (natsD_ints W.cs ▸ ok_ints _)).1
 show (D.pys [.tup (natsD W.cs), .int (W.tr : Int)]).map PyData.tuple = _
 have e : D.py (.tup (natsD W.cs)) = some (.tuple ((natsD W.cs).map pyF)) := by
  show (D.pys (natsD W.cs)).map PyData.tuple = _
  refine rwG h ?_; rfl
 have : D.pys [.tup (natsD W.cs), .int (W.tr : Int)] = some [.tuple ((natsD W.cs).map pyF), .int (W.tr : Int)] := by
  unfold D.pys
  refine rwG e ?_
  rfl
 refine rwG this ?_
 rfl
theorem shaped_norm (W : Ws) : SeqAt.shaped (.tuple [.tuple ((natsD W.cs).map pyF), .int (W.tr : Int)]) = true := by
 refine xAA (pys_flat (natsD_ints W.cs ▸ ok_ints _ : (natsD W.cs).all okF = true)) fun _ b2 b3 => ?_
 have e1 : PyData.canLay0 (.tuple [.tuple ((natsD W.cs).map pyF), .int (W.tr : Int)]) = true := by
  simp only [PyData.canLay0, PyData.canLayAll0, b2, Bool.and_self]
 have e2 : PyData.depth (.tuple [.tuple ((natsD W.cs).map pyF), .int (W.tr : Int)]) = 2 := by
  simp only [PyData.depth, PyData.depthAll, b3]
  decide
 unfold SeqAt.shaped
 refine rwG e1 (rwG e2 ?_)
 rfl
theorem cast_inj : ∀ {a b : List Nat}, (a.map fun (c : Nat) => (c : Int)) = (b.map fun (c : Nat) => (c : Int)) ↔ a = b := by
 intro a b
 constructor
 ·intro h
  exact List.map_inj_right (fun x y e => by exact_mod_cast e) |>.mp h
 ·intro h; exact rwG h rfl
theorem q_eqN : cmpD .Eq (normD A) (normD B) = some (eqW A B) := by
 have e0 : cmpD .Eq (normD A) (normD B) = eqD (normD A) (normD B) := rfl
 rw [e0, eqD_some (py_norm A) (py_norm B) (shaped_norm A) (shaped_norm B)]
 congr 1
 unfold eqW
 simp only [PyData.eqv, PyData.eqvAll]
 rw [natsD_ints, natsD_ints, eqv_ints]
 have h1 : decide (List.map (fun (c : Nat) => (c : Int)) A.cs = List.map (fun (c : Nat) => (c : Int)) B.cs) = decide (A.cs = B.cs) := by
  rw [decide_eq_decide]; exact cast_inj
 have h2 : ((A.tr : Int) == (B.tr : Int)) = decide (A.tr = B.tr) := by
  by_cases h : A.tr = B.tr
  ·simp [h]
  ·exact rwG (beq_eq_false_iff_ne.mpr (show (A.tr : Int) ≠ (B.tr : Int) by lia)) (rwG (decide_eq_false h) rfl)
 rw [h1, h2, Bool.and_true]
theorem w_equal {K : D -> Prop} (h : K (.bool (eqW A B))) : exsW (cx tb U) c_equal (["self", "other"].zip ([wsD r1 A, wsD r2 B].map Ent.v)) (fun fl _ => retK K fl) := by
 unfold c_equal
 ktr_room
 refine ask_of q_eqN ?_
 exact h
theorem pickS_plain (l : List Nat) (lo hi : Option Int) : pickS (st l) lo hi none = st ((l.drop (lo.elim 0 (clipAt l.length))).take (hi.elim l.length (clipAt l.length) - lo.elim 0 (clipAt l.length))) := by
 have e : Builtin.Str.strSliceIndices lo hi 1 (st l).length = sliceRange (sliceBounds lo hi none l.length).1 (sliceBounds lo hi none l.length).2.1 (sliceBounds lo hi none l.length).2.2 := rfl
 unfold pickS
 simp only [Option.getD_none]
 rw [e, sliceBounds_plain]
 simp only
 rw [sliceRange_one]
 have h := pick_run (st l).cps (lo.elim 0 (clipAt l.length)) (hi.elim l.length (clipAt l.length) - lo.elim 0 (clipAt l.length))
 have hh : (st l).cps.toList = l := by unfold st; simp
 rw [h, hh]
 split
 ·rename_i hc
  rw [length_map, length_range] at hc
  have hc : hi.elim l.length (clipAt l.length) - lo.elim 0 (clipAt l.length) = l.length := by
   have : (st l).length = l.length := by show l.toArray.size = _; simp
   rw [this] at hc
   simpa using hc
  have hb : hi.elim l.length (clipAt l.length) <= l.length := by
   cases hi with
   | none => exact Nat.le_refl _
   | some i => show clipAt l.length i <= _; have := clipAt_cast l.length i; lia
  refine rwG hc ?_
  by_cases h0 : l.length = 0
  ·have : l = [] := List.length_eq_zero_iff.mp h0
   subst this; simp
  ·have : lo.elim 0 (clipAt l.length) = 0 := by lia
   refine rwG this ?_; simp
 ·rfl
theorem len_st (l : List Nat) : (st l).length = l.length := by show l.toArray.size = _; simp
theorem q_sliceS {lo hi : Option Int} (h1 : partO a = some lo) (h2 : partO b = some hi) (h : l.length <= sizeLine) :
  sliceD (.str (st l)) a b none = some (.str (st ((l.drop (lo.elim 0 (clipAt l.length))).take (hi.elim l.length (clipAt l.length) - lo.elim 0 (clipAt l.length))))) := by
 unfold sliceD
 refine rwG h1 (rwG h2 ?_)
 have hc : (pickS (st l) lo hi none).length <= sizeLine := by
  rw [pickS_plain, len_st, length_take, length_drop]
  lia
 exact (if_pos ⟨nofun, hc⟩).trans (by rw [pickS_plain])
theorem q_cutS {l : List Nat} {a b : Nat} (h : l.length <= sizeLine) (hb : b <= l.length) : sliceD (.str (st l)) (some (.int (a : Int))) (some (.int (b : Int))) none = some (.str (st ((l.drop a).take (b - a)))) := by
 refine rwG (q_sliceS (lo := some (a : Int)) (hi := some (b : Int)) rfl rfl h) ?_
 simp only [Option.elim_some, clipAt_nat]
 by_cases ha : a <= l.length
 ·exact rwG (Nat.min_eq_left ha) (rwG (Nat.min_eq_left hb) rfl)
 ·refine rwG (Nat.min_eq_right (show l.length <= a by lia)) (rwG (Nat.min_eq_left hb) (rwG (drop_of_length_le (Nat.le_refl _)) (rwG (drop_of_length_le (show l.length <= a by lia)) ?_)))
  simp
theorem st_inj (h : st a = st b) : a = b := by
 have := congrArg (fun x : Str => x.cps.toList) h
 simpa [st] using this
theorem et_lists : etKs = (etRaw.map fun p => p.1.toList.map Char.toNat).map st := by
 unfold etKs
 refine rwG map_map ?_
 apply map_congr_left
 intro p _
 rw [Str.ofString_eq_toList]
 rfl
noncomputable def etL : List (List Nat) := etRaw.map fun p => p.1.toList.map Char.toNat
theorem et_sub : (etL.all fun p => ops.contains p) = true := by decide +kernel
theorem et_sup : (ops.all fun p => etL.contains p) = true := by decide +kernel
theorem et_val : (etRaw.all fun q => decide (num (q.1.toList.map Char.toNat) = q.2.2.1)) = true := by decide +kernel
theorem contains_map (x : List Nat) : ∀ l : List (List Nat), (l.map st).contains (st x) = l.contains x
 | [] => rfl
 | y :: l => by
  refine rwG map_cons (rwG contains_cons (rwG contains_cons (rwG (contains_map x l) ?_)))
  congr 1
  by_cases h : x = y
  ·subst h; simp
  ·exact rwG (beq_eq_false_iff_ne.mpr h) (rwG (beq_eq_false_iff_ne.mpr (fun q => h (st_inj q))) rfl)
theorem et_has (p : List Nat) : etKs.contains (st p) = op p := by
 rw [et_lists, contains_map]
 unfold op
 rw [Bool.eq_iff_iff, contains_iff_mem, contains_iff_mem]
 exact ⟨fun h => contains_iff_mem.mp (all_eq_true.mp et_sub p h), fun h => contains_iff_mem.mp (all_eq_true.mp et_sup p h)⟩
theorem lookup_of {v : α} {f : List Nat -> α} (p : List Nat) : ∀ {l : List (List Nat × α)}, (∀ q ∈ l, q.2 = f q.1) -> l.any (fun q => decide (q.1 = p)) = true -> (l.map fun q => (st q.1, q.2)).lookup (st p) = some (f p)
 | [], _, h => by injection h
 | q :: l, hv, h => by
  refine rwG map_cons (rwG lookup_cons ?_)
  by_cases e : q.1 = p
  ·rw [show (st p == st q.1) = true by refine rwG e ?_; simp]
   simp only
   exact rwG (hv q mem_cons_self) (rwG e rfl)
  ·refine rwG (show (st p == st q.1) = false from beq_eq_false_iff_ne.mpr fun z => e (st_inj z).symm) ?_
   simp only
   refine lookup_of (v := v) p (fun q' h' => hv q' (mem_cons_of_mem _ h')) ?_
   rw [any_cons, decide_eq_false e, Bool.false_or] at h
   exact h
theorem et_get {p : List Nat} (h : op p = true) : getK etKs etDs (st p) = some (.int (num p)) := by
 unfold getK etKs etDs
 have e : (etRaw.map fun p => ofString p.1).zip (etRaw.map fun p => D.int p.2.2.1) = (etRaw.map fun q => (q.1.toList.map Char.toNat, D.int q.2.2.1)).map fun q => (st q.1, q.2) := by
  refine rwG List.zip_map' (rwG map_map ?_)
  apply map_congr_left
  intro q _
  show (ofString q.1, _) = (st _, _)
  rw [Str.ofString_eq_toList]
  rfl
 refine rwG e ?_
 refine lookup_of (v := D.none) (f := fun p => D.int (num p)) p (fun q hq => ?_) ?_
 ·apply xEAq2R (mem_map.mp hq); intro r hr
  have := of_decide_eq_true (all_eq_true.mp et_val r hr)
  show D.int _ = D.int _
  exact rwG this rfl
 ·rw [<- et_has, et_lists, contains_map, contains_iff_mem] at h
  refine xEA (mem_map.mp h) fun r hr e => ?_
  rw [any_eq_true]
  exact ⟨_, mem_map.mpr ⟨r, hr, rfl⟩, decide_eq_true e⟩
theorem g1_pos (r : List Nat) : 1 <= g1 r := by
 unfold g1; repeat' split
 all_goals lia
theorem g1_le {r : List Nat} (h : r ≠ []) : g1 r <= r.length := by
 have : 1 <= r.length := List.length_pos_iff.mpr h
 unfold g1; repeat' split
 all_goals lia
theorem g1_op {r : List Nat} (h : r ≠ []) (h1 : ∀ c ∈ r, op [c] = true) : op (r.take (g1 r)) = true := by
 unfold g1
 split
 ·rename_i q; exact q.2
 ·split
  ·rename_i q; exact q.2
  ·cases r with
   | nil => exact (h rfl).elim
   | cons c r => exact h1 c mem_cons_self
theorem max_sizes {r : List Nat} (h : r ≠ []) (h1 : ∀ c ∈ r, op [c] = true) : maxL ((([1, 2, 3] : List Nat).filter fun n => decide (n <= r.length) && op (r.take n)).map fun (n : Nat) => (n : Int)) = some (g1 r : Int) := by
 have hl : 1 <= r.length := List.length_pos_iff.mpr h
 have ho : op (r.take 1) = true := by
  cases r with
  | nil => exact (h rfl).elim
  | cons c r => exact h1 c mem_cons_self
 unfold g1
 by_cases h3 : 3 <= r.length /\ op (r.take 3) = true
 ·by_cases h2 : op (r.take 2) = true
  ·simp [List.filter, hl, ho, h3.1, h3.2, h2, show 2 <= r.length by lia, maxL]; rfl
  ·simp [List.filter, hl, ho, h3.1, h3.2, h2, maxL]; rfl
 ·refine rwG (if_neg h3) ?_
  have h3' : (decide (3 <= r.length) && op (r.take 3)) = false := by
   by_cases q : 3 <= r.length
   ·cases z : op (r.take 3) with
    | true => exact (h3 ⟨q, z⟩).elim
    | false => simp
   ·simp [q]
  by_cases h2 : 2 <= r.length /\ op (r.take 2) = true
  ·refine rwG (if_pos h2) ?_
   simp [List.filter, hl, ho, h3', h2.1, h2.2, maxL]; rfl
  ·refine rwG (if_neg h2) ?_
   have h2' : (decide (2 <= r.length) && op (r.take 2)) = false := by
    by_cases q : 2 <= r.length
    ·cases z : op (r.take 2) with
     | true => exact (h2 ⟨q, z⟩).elim
     | false => simp
    ·simp [q]
   simp [List.filter, hl, ho, h3', h2', maxL]
theorem body_numbers {U : Ut} {l : List Nat} {a : Nat} {row : List D} {K : Fl -> Ro -> Prop} (ha : a < l.length) (hl : l.length <= 1000) (h1 : ∀ c ∈ l, op [c] = true) (hr : row.length < sizeLine)
  (h : ∀ ρ, K .next (("at", .v (.int ((a + g1 (l.drop a) : Nat) : Int))) :: ("row", .own (.list (row ++ [.int (num ((l.drop a).take (g1 (l.drop a))))]))) :: ("size", ρ) :: [("at", .v (.int (a : Int))), ("body", .v (.str (st l))), ("row", .own (.list row))])) :
  exsW (cx tb U) c_numbers_b1 [("at", .v (.int (a : Int))), ("body", .v (.str (st l))), ("row", .own (.list row))] K := by
 have hs : l.length <= sizeLine := by refine rwG sizeLine_eq ?_; lia
 have hd : l.drop a ≠ [] := fun q => by
  have := congrArg List.length q
  rw [length_drop, length_nil] at this
  lia
 have hmem : ∀ c ∈ l.drop a, op [c] = true := fun c hc => h1 c (mem_of_mem_drop hc)
 have hle := g1_le hd
 rw [length_drop] at hle
 unfold c_numbers_b1
 ktr_room
 refine ⟨by decide, by decide, ?_⟩
 refine rwG (show [D.int 1, D.int 2, D.int 3] = ([1, 2, 3] : List Nat).map fun (n : Nat) => D.int (n : Int) from rfl) ?_
 refine compL_m (p := fun n => decide (n <= (l.drop a).length) && op ((l.drop a).take n)) (g := fun n => .int n) _ _ (fun n hn k hk => ?_) (fun c _ _ k hk => hk) ?_
 ·rw [q_lenS (by rw [len_st]; exact hs), len_st]
  ktr_room
  rw [length_drop] at hk
  refine ⟨fun e => ?_, fun e => ?_⟩
  ·have e : a + n <= l.length := by have := of_decide_eq_true e; lia
   refine rwG (show (a : Int) + (n : Int) = ((a + n : Nat) : Int) by lia) ?_
   refine ask_of (q_cutS hs e) ?_
   ktr_room
   rw [et_has, Nat.add_sub_cancel_left]
   rw [decide_eq_true (by lia), Bool.true_and] at hk
   exact tst hk
  ·have e : ¬ a + n <= l.length := by have := of_decide_eq_false e; lia
   rw [decide_eq_false (by lia), Bool.false_and] at hk
   exact ⟨(fun q => nomatch q), fun _ => hk⟩
 ·have e : List.map (fun (n : Nat) => D.int (n : Int)) (List.filter (fun n => decide (n <= (l.drop a).length) && op ((l.drop a).take n)) [1, 2, 3]) = ((([1, 2, 3] : List Nat).filter fun n => decide (n <= (l.drop a).length) && op ((l.drop a).take n)).map fun (n : Nat) => (n : Int)).map .int := by refine rwG map_map ?_; rfl
  rw [nil_append, e]
  refine ask_of (q_max (max_sizes hd hmem)) ?_
  ktr_room
  refine rwG (show (a : Int) + (g1 (l.drop a) : Int) = ((a + g1 (l.drop a) : Nat) : Int) by lia) ?_
  refine ask_of (q_cutS hs (by lia)) ?_
  rw [Nat.add_sub_cancel_left]
  have hop := g1_op hd hmem
  show ask (getK etKs etDs _) _
  refine ask_of (et_get hop) ?_
  refine ask_of (q_app hr) ?_
  exact h _
theorem test_numbers {U : Ut} {l : List Nat} {a : Nat} {row : List D} {q : Bool -> Prop} (hl : l.length <= 1000) (h : q (decide (a < l.length))) :
  evW (cx tb U) [("at", .v (.int (a : Int))), ("body", .v (.str (st l))), ("row", .own (.list row))] c_numbers_t1 (onBool q) := by
 unfold c_numbers_t1
 ktr_room
 rw [q_lenS (by rw [len_st, sizeLine_eq]; lia), len_st]
 ktr_room
 refine rwG (show decide ((a : Int) < (l.length : Int)) = decide (a < l.length) from decide_eq_decide.mpr (by lia)) ?_
 exact h
theorem loop_numbers {U : Ut} {l : List Nat} {K : Fl -> Ro -> Prop} (hl : l.length <= 1000) (h1 : ∀ c ∈ l, op [c] = true) : ∀ (n a : Nat) (row : List D), a <= l.length -> l.length - a < n -> row.length + (l.length - a) <= 2000 ->
  (∀ b : Int, K .next [("at", .v (.int b)), ("body", .v (.str (st l))), ("row", .own (.list (row ++ (greedy (l.length - a) (l.drop a)).map fun p => .int (num p))))]) ->
  whileL (fun ρ' q => evW (cx tb U) ρ' c_numbers_t1 (onBool q)) (fun ρ' => exsW (cx tb U) c_numbers_b1 ρ') ["at", "body", "row"] n [("at", .v (.int (a : Int))), ("body", .v (.str (st l))), ("row", .own (.list row))] K
 | 0, a, row, _, h, _, _ => by lia
 | n + 1, a, row, ha, hn, hr, h => by
  have hs : l.length <= sizeLine := by refine rwG sizeLine_eq ?_; lia
  unfold whileL
  refine test_numbers hl ⟨fun e => ?_, fun e => ?_⟩
  ·have e : a < l.length := of_decide_eq_true e
   have hd : l.drop a ≠ [] := fun q => by
    have := congrArg List.length q
    rw [length_drop, length_nil] at this
    lia
   have hle := g1_le hd
   rw [length_drop] at hle
   have hp := g1_pos (l.drop a)
   refine body_numbers e hl h1 (by refine rwG sizeLine_eq ?_; lia) fun ρ => ?_
   refine loop_numbers hl h1 n (a + g1 (l.drop a)) (row ++ [.int (num ((l.drop a).take (g1 (l.drop a))))]) (by lia) (by lia) (by refine rwG length_append (rwG length_singleton ?_); lia) (fun b => ?_)
   have := h b
   rw [append_assoc]
   have eg : greedy (l.length - a) (l.drop a) = (l.drop a).take (g1 (l.drop a)) :: greedy (l.length - a - 1) (l.drop (a + g1 (l.drop a))) := by
    obtain ⟨m, hm⟩ : ∃ m, l.length - a = m + 1 := ⟨l.length - a - 1, by lia⟩
    refine rwG hm ?_
    cases q : l.drop a with
    | nil => exact (hd q).elim
    | cons c r =>
     show _ :: greedy m _ = _
     refine rwG (Eq.symm q) (rwG List.drop_drop ?_)
     rfl
   rw [eg, map_cons] at this
   have fuel : ∀ (f f' : Nat) (r : List Nat), r.length <= f -> r.length <= f' -> greedy f r = greedy f' r := by
    intro f
    induction f with
    | zero =>
     intro f' r h1 _
     have : r = [] := List.length_eq_zero_iff.mp (by lia)
     subst this
     cases f' <;> rfl
    | succ f ih =>
     intro f' r h1 h2
     cases r with
     | nil => cases f' <;> rfl
     | cons c r =>
      cases f' with
      | zero => simp at h2
      | succ f' =>
       show _ :: _ = _ :: _
       have hp := g1_pos (c :: r)
       rw [ih f' _ (by refine rwG length_drop ?_; lia) (by rw [length_drop]; lia)]
   rw [fuel (l.length - (a + g1 (l.drop a))) (l.length - a - 1) _ (by refine rwG length_drop ?_; lia) (by rw [length_drop]; lia)]
   exact this
  ·have e : ¬ a < l.length := of_decide_eq_false e
   have : l.length - a = 0 := by lia
   have hk := h (a : Int)
   rw [this] at hk
   have e0 : greedy 0 (l.drop a) = [] := rfl
   rw [e0, map_nil, append_nil] at hk
   exact hk
theorem w_numbers {U : Ut} {l : List Nat} {K : D -> Prop} (hl : l.length <= 1000) (h1 : ∀ c ∈ l, op [c] = true) (h : K (.list ((numbersS l).map .int))) : exsW (cx tb U) c_numbers (["body"].zip ([D.str (st l)].map Ent.v)) (fun fl _ => retK K fl) := by
 unfold c_numbers
 ktr_room
 refine ⟨by decide, rfl, l.length + 1, ?_⟩
 refine loop_numbers hl h1 (l.length + 1) 0 [] (by lia) (by lia) (by refine rwG length_nil ?_; lia) fun b => ?_
 ktr_room
 unfold numbersS at h
 rw [map_map] at h
 exact h
theorem op_has (p : List Nat) : opKs.contains (st p) = op p := contains_map p ops
theorem op_get (h : op p = true) : getK opKs opDs (st p) = some (.int (num p)) := by
 unfold getK opKs opDs
 have e : (ops.map st).zip (ops.map fun p => D.int (num p)) = (ops.map fun q => (q, D.int (num q))).map fun q => (st q.1, q.2) := by
  refine rwG List.zip_map' (rwG map_map ?_)
  rfl
 refine rwG e ?_
 refine lookup_of (v := D.none) (f := fun p => D.int (num p)) p (fun q hq => ?_) ?_
 ·apply xEAq2R (mem_map.mp hq); intro r hr
  rfl
 ·rw [any_eq_true]
  exact ⟨_, mem_map.mpr ⟨p, contains_iff_mem.mp h, rfl⟩, decide_eq_true rfl⟩
theorem endsC_le (h1 : 1 <= L) (h : x ∈ endsC L m) : x <= L := by
 unfold endsC at h
 rcases mem_append.mp h with h | h
 ·apply xEAq2R (mem_map.mp h); intro i hi
  have := mem_range.mp (mem_filter.mp hi).1
  lia
 ·refine rwG (mem_singleton.mp h) ?_
  exact Nat.le_refl _
theorem endsC_len (L m : Nat) (h1 : 1 <= L) : (endsC L m).length <= L := by
 unfold endsC
 rw [length_append, length_map, length_singleton]
 have := length_filter_le (fun i => decide (m / 2 ^ i % 2 = 1)) (List.range (L - 1))
 rw [length_range] at this
 lia
theorem parts_len (l : List Nat) (m : Nat) (h1 : 1 <= l.length) : (partsC l m).length <= l.length := by
 unfold partsC
 rw [length_map, List.length_zip]
 have := endsC_len l.length m h1
 lia
theorem part_le (h : p ∈ partsC l m) : p.length <= l.length /\ ∀ c ∈ p, c ∈ l := by
 unfold partsC at h
 apply xEAq2R (mem_map.mp h); intro q hq
 refine ⟨?_, fun c hc => mem_of_mem_drop (mem_of_mem_take hc)⟩
 refine rwG length_take (rwG length_drop ?_)
 lia
theorem q_gtL : cmpD .Gt (.list (a.map .int)) (.list (b.map .int)) = some (gtL a b) := by
 show gtO (intsOf (a.map .int)) (intsOf (b.map .int)) = _
 rw [intsOf_map, intsOf_map]
 rfl
theorem okF_st (h : ∀ c ∈ p, c < 1114112) : okF (.str (st p)) = true := by
 show (st p).cps.all (·< 0x110000) = true
 unfold st
 simp only [List.all_toArray, all_eq_true, decide_eq_true_eq]
 exact h
theorem fdiv_nat (a b : Nat) : (a : Int).fdiv (b : Int) = ((a / b : Nat) : Int) := by
 rw [Int.fdiv_eq_ediv_of_nonneg _ (by lia), Int.natCast_ediv]
theorem fmod_nat (a b : Nat) : (a : Int).fmod (b : Int) = ((a % b : Nat) : Int) := by
 rw [Int.fmod_eq_emod_of_nonneg _ (by lia), Int.natCast_emod]
theorem q_mask {m i : Nat} (hi : i <= 6) {k : D -> Prop} (h : k (.bool (decide (m / 2 ^ i % 2 = 1)))) :
  (ask (binD .Pow (.int 2) (.int (i : Int))) fun y => ask (binD .FloorDiv (.int (m : Int)) y) fun x => ask (binD .Mod x (.int 2)) fun x => ask (cmpD .Eq x (.int 1)) fun q => k (.bool q)) := by
 have hp : (2 : Int) ^ (i : Int).toNat = ((2 ^ i : Nat) : Int) := by
  rw [Int.toNat_natCast, Int.natCast_pow]; rfl
 have hb : 2 ^ i <= 2 ^ 6 := Nat.pow_le_pow_right (by decide) hi
 have hb0 : 0 < 2 ^ i := Nat.pow_pos (by decide)
 refine ask_of (q_powI (by decide) (by lia) (by lia)) ?_
 refine rwG hp ?_
 refine ask_of (q_divI (by lia) (of_small (by lia))) ?_
 rw [fdiv_nat]
 refine ask_of (q_modI (by decide)) ?_
 refine ask_of q_eqI ?_
 refine rwG (show ((m / 2 ^ i : Nat) : Int).fmod 2 = ((m / 2 ^ i % 2 : Nat) : Int) from fmod_nat _ 2) ?_
 have e : (((m / 2 ^ i % 2 : Nat) : Int) == (1 : Int)) = decide (m / 2 ^ i % 2 = 1) := by
  by_cases h : m / 2 ^ i % 2 = 1
  ·refine rwG h ?_; rfl
  ·refine rwG (decide_eq_false h) ?_
   exact beq_eq_false_iff_ne.mpr (by lia)
 refine rwG e ?_
 exact h
theorem zip_cons_map (xs : List Nat) : ([D.int 0] ++ natsD xs).zip (natsD xs) = ((0 :: xs).zip xs).map fun p => (D.int (p.1 : Int), D.int (p.2 : Int)) := by
 have : [D.int 0] ++ natsD xs = natsD (0 :: xs) := rfl
 refine rwG this ?_
 unfold natsD
 refine rwG zip_map ?_
 rfl
theorem body_cut {U : Ut} {l : List Nat} {K : Fl -> Ro -> Prop} (h1 : 1 <= l.length) (hl : l.length <= 6) (hok : ∀ c ∈ l, c < 1114112)
  (h : ∀ ρ, keepR ["best", "body", "number", "told"] ρ = [("best", .v (.list ((stepC l (best, told) m).1.map .int))), ("body", .v (.str (st l))), ("number", .v (.dict opKs opDs)), ("told", .v (.list ((stepC l (best, told) m).2.map .int)))] -> K .next ρ) :
  exsW (cx tb U) c_cut_b1 (("mask", .v (.int (m : Int))) :: [("best", .v (.list (best.map .int))), ("body", .v (.str (st l))), ("number", .v (.dict opKs opDs)), ("told", .v (.list (told.map .int)))]) K := by
 have hs : l.length <= sizeLine := by refine rwG sizeLine_eq ?_; lia
 have hel := endsC_len l.length m h1
 have hpl := parts_len l m h1
 unfold c_cut_b1
 ktr_room
 rw [q_lenS (by rw [len_st]; exact hs), len_st]
 ktr_room
 refine ⟨⟨by lia, by lia⟩, ?_⟩
 rw [intL_zero, show ((l.length : Int) - 1).toNat = l.length - 1 by lia]
 refine ⟨by rw [length_map, length_range, sizeLine_eq]; lia, ?_⟩
 refine compL_m (p := fun i => decide (m / 2 ^ i % 2 = 1)) (g := fun i => .int ((i + 1 : Nat) : Int)) _ _ (fun i hi k hk => ?_) (fun i _ _ k hk => ?_) ?_
 ·have hi := mem_range.mp hi
  exact q_mask (k := fun d => onBool (fun b => (b = true -> k true) /\ (b = false -> k false)) d) (by lia) (tst hk)
 ·refine ask_of q_addI ?_
  exact hk
 refine ⟨by refine rwG sizeLine_eq ?_; simp, ?_⟩
 have e1 : [] ++ List.map (fun i => D.int ((i + 1 : Nat) : Int)) (List.filter (fun i => decide (m / 2 ^ i % 2 = 1)) (List.range (l.length - 1))) ++ [D.int (l.length : Int)] = natsD (endsC l.length m) := by
  unfold natsD endsC
  refine rwG map_append (rwG map_map ?_)
  rfl
 rw [q_addL (by
  rw [nil_append, length_map, length_singleton]
  have := length_filter_le (fun i => decide (m / 2 ^ i % 2 = 1)) (List.range (l.length - 1))
  rw [length_range] at this
  rw [sizeLine_eq]; lia), ask_some, e1]
 refine ⟨by refine rwG sizeLine_eq ?_; simp, ?_⟩
 have hn : (natsD (endsC l.length m)).length = (endsC l.length m).length := by unfold natsD; rw [length_map]
 refine ask_of (q_addL (by refine rwG hn (rwG sizeLine_eq ?_); simp only [length_singleton]; lia)) ?_
 ktr_room
 refine ⟨by refine rwG length_append (rwG hn (rwG sizeLine_eq ?_)); simp only [length_singleton]; lia, by refine rwG hn (rwG sizeLine_eq ?_); lia, ?_⟩
 rw [zip_cons_map]
 refine compL_m (p := fun _ => true) (g := fun p => .str (st ((l.drop p.1).take (p.2 - p.1)))) _ _ (fun p _ k hk => hk) (fun p hp _ k hk => ?_) ?_
 ·have hb := endsC_le (m := m) h1 (List.of_mem_zip hp).2
  refine ask_of (q_cutS hs hb) ?_
  exact hk
 rw [nil_append, filter_eq_self.mpr (fun _ _ => rfl)]
 have e2 : List.map (fun p : Nat × Nat => D.str (st ((l.drop p.1).take (p.2 - p.1)))) ((0 :: endsC l.length m).zip (endsC l.length m)) = (partsC l m).map fun p => .str (st p) := by
  unfold partsC; refine rwG map_map ?_; rfl
 rw [e2]
 refine ⟨by rw [length_map, sizeLine_eq]; lia, ?_⟩
 refine compL_m (p := fun _ => true) (g := fun p => .int (p.length : Int)) _ _ (fun p _ k hk => hk) (fun p hp _ k hk => ?_) ?_
 ·have := (part_le hp).1
  refine ask_of (q_lenS (by rw [len_st, sizeLine_eq]; lia)) ?_
  rw [len_st]
  exact hk
 rw [nil_append, filter_eq_self.mpr (fun _ _ => rfl)]
 have e3 : List.map (fun p : List Nat => D.int (p.length : Int)) (partsC l m) = (sizesC l m).map .int := by unfold sizesC; rw [map_map]; rfl
 rw [e3]
 refine ask_of q_gtL ?_
 have hfalse : (gtL (sizesC l m) best && (partsC l m).all op) = false -> ∀ ρ, keepR ["best", "body", "number", "told"] ρ = [("best", .v (.list (best.map .int))), ("body", .v (.str (st l))), ("number", .v (.dict opKs opDs)), ("told", .v (.list (told.map .int)))] -> K .next ρ := fun q ρ hρ => by
  refine h ρ ?_
  refine rwG hρ ?_
  unfold stepC
  rw [if_neg (by refine rwG q ?_; decide)]
 have hpsz : (List.map (fun p => D.str (st p)) (partsC l m)).length <= sizeLine := by rw [length_map, sizeLine_eq]; lia
 refine ⟨fun hg => ⟨hpsz, ?_⟩, fun hg => ⟨(fun q => nomatch q), fun _ => ?_⟩⟩
 ·refine compL_m (p := fun p => !op p) (g := fun p => .str (st p)) _ _ (fun p _ k hk => ?_) (fun p _ _ k hk => hk) ?_
  ·refine ask_of q_ninD ?_
   rw [op_has]
   exact tst hk
  refine ⟨by refine rwG sizeLine_eq ?_; simp, ?_⟩
  have hfl : ([] ++ List.map (fun p => D.str (st p)) (List.filter (fun p => !op p) (partsC l m))).all okF = true := by
   rw [nil_append, List.all_map, all_eq_true]
   intro p hp
   exact okF_st fun c hc => hok c ((part_le (mem_filter.mp hp).1).2 c hc)
  refine rwG q_eqL ?_
  refine ask_of (eqD_nil hfl) ?_
  have he : ([] ++ List.map (fun p => D.str (st p)) (List.filter (fun p => !op p) (partsC l m))).isEmpty = (partsC l m).all op := by
   rw [nil_append]
   induction partsC l m with
   | nil => rfl
   | cons p r ih =>
    rw [all_cons, <- ih]
    cases q : op p with
    | true => simp [q]
    | false => simp [q]
  refine rwG he ?_
  refine ⟨fun hp => ⟨hpsz, ?_⟩, fun hp => ?_⟩
  ·refine compL_m (p := fun _ => true) (g := fun p => .int (num p)) _ _ (fun p _ k hk => hk) (fun p hm _ k hk => ?_) ?_
   ·show ask (getK opKs opDs (st p)) k
    refine ask_of (op_get (all_eq_true.mp hp p hm)) ?_
    exact hk
   ·rw [nil_append, filter_eq_self.mpr (fun _ _ => rfl)]
    refine h _ ?_
    have : stepC l (best, told) m = (sizesC l m, (partsC l m).map num) := by
     unfold stepC
     rw [if_pos (by refine rwG hg (rwG hp ?_); rfl)]
    refine rwG this ?_
    have e4 : List.map (fun p => D.int (num p)) (partsC l m) = ((partsC l m).map num).map .int := by rw [map_map]; rfl
    refine rwG e4 ?_
    rfl
  ·exact hfalse (by refine rwG hg (rwG hp ?_); rfl) _ rfl
 ·exact hfalse (by refine rwG hg ?_; rfl) _ rfl
theorem loop_cut {U : Ut} {l : List Nat} {K : Fl -> Ro -> Prop} (h1 : 1 <= l.length) (hl : l.length <= 6) (hok : ∀ c ∈ l, c < 1114112) : ∀ (ms : List Nat) (bt : List Int × List Int),
  K .next [("best", .v (.list ((ms.foldl (stepC l) bt).1.map .int))), ("body", .v (.str (st l))), ("number", .v (.dict opKs opDs)), ("told", .v (.list ((ms.foldl (stepC l) bt).2.map .int)))] ->
  forL (fun d ρ' => exsW (cx tb U) c_cut_b1 (("mask", .v d) :: ρ')) ["best", "body", "number", "told"] (ms.map fun (m : Nat) => D.int (m : Int)) [("best", .v (.list (bt.1.map .int))), ("body", .v (.str (st l))), ("number", .v (.dict opKs opDs)), ("told", .v (.list (bt.2.map .int)))] K
 | [], bt, h => h
 | m :: ms, bt, h => by
  refine rwG map_cons ?_
  unfold forL
  refine body_cut h1 hl hok fun ρ hρ => ?_
  show forL _ _ _ (keepR _ ρ) K
  refine rwG hρ ?_
  exact loop_cut h1 hl hok ms _ h
theorem w_cut {K : D -> Prop} (h1 : 1 <= l.length) (hl : l.length <= 6) (hok : ∀ c ∈ l, c < 1114112) (h : K (.list ((cutS l).map .int))) :
  exsW (cx tb U) c_cut (["body", "number"].zip ([D.str (st l), .dict opKs opDs].map Ent.v)) (fun fl _ => retK K fl) := by
 have hs : l.length <= sizeLine := by refine rwG sizeLine_eq ?_; lia
 unfold c_cut
 ktr_room
 refine ⟨by refine rwG sizeLine_eq ?_; simp, by refine rwG sizeLine_eq ?_; simp, ?_⟩
 rw [q_lenS (by rw [len_st]; exact hs), len_st]
 ktr_room
 have hp : (2 : Int) ^ ((l.length : Int) - 1).toNat = ((2 ^ (l.length - 1) : Nat) : Int) := by
  rw [show ((l.length : Int) - 1).toNat = l.length - 1 by lia, Int.natCast_pow]; rfl
 have hb : 2 ^ (l.length - 1) <= 2 ^ 6 := Nat.pow_le_pow_right (by decide) (by lia)
 refine ask_of (q_powI (by decide) (by lia) (by lia)) ?_
 refine rwG hp ?_
 refine ⟨⟨Int.le_trans (by decide) (Int.natCast_nonneg _), Int.lt_of_le_of_lt (Int.ofNat_le.mpr hb) (by decide)⟩, ?_⟩
 rw [intL_zero, Int.toNat_natCast]
 refine loop_cut h1 hl hok _ ([], []) ?_
 ktr_room
 exact h
theorem mx_bound (hA : A.cs.length <= 100) (hB : B.cs.length <= 100) (hA' : A.tr <= 100) (hB' : B.tr <= 100) : 0 <= mx A B /\ mx A B <= 100 := by
 unfold mx lng
 repeat' split
 all_goals lia
theorem q_maxW : fnBu "max" [.int (lng A), .int (lng B)] = some (.int (mx A B)) := rfl
theorem wit1_len (f : Int -> Int -> Bool) (A B : Ws) (ts : Nat) : (wit1 f A B ts).length <= 1 := by unfold wit1; split <;> simp
theorem body_nlw {K : Fl -> Ro -> Prop} (hA : A.cs.length <= 100) (hB : B.cs.length <= 100) (ht : 1 <= ts) (ht2 : ts <= 1000) (ha : a.length < sizeLine)
  (h : ∀ ρ, keepR ["a", "other", "self"] ρ = [("a", .own (.list (a ++ wit1 geI A B ts))), ("other", .v (wsD r2 B)), ("self", .v (wsD r1 A))] -> K .next ρ) :
  exsW (cx tb U1) c_nlw_b1 (("ts", .v (.int (ts : Int))) :: [("a", .own (.list a)), ("other", .v (wsD r2 B)), ("self", .v (wsD r1 A))]) K := by
 unfold c_nlw_b1
 ktr_room
 refine ⟨r1, A, ts, rfl, hA, ht, ht2, r2, B, ts, rfl, hB, ht, ht2, ?_⟩
 dsimp only
 refine ask_of q_geI ?_
 refine ⟨fun e => ?_, fun e => ?_⟩
 ·refine ⟨r1, A, ts, rfl, hA, ht, ht2, r2, B, ts, rfl, hB, ht, ht2, ?_⟩
  dsimp only
  refine ⟨by refine rwG sizeLine_eq ?_; simp, ?_⟩
  refine ask_of (q_app ha) ?_
  refine h _ ?_
  have : wit1 geI A B ts = [.tup [.int (ts : Int), .int (lvl A ts : Nat), .int (lvl B ts : Nat)]] := by
   unfold wit1
   exact rwG (if_pos (by simpa [geI] using e)) rfl
  refine rwG this ?_
  rfl
 ·refine h _ ?_
  have : wit1 geI A B ts = [] := by
   unfold wit1
   exact rwG (if_neg (by simpa [geI] using e)) rfl
  rw [this, append_nil]
  rfl
theorem loop_nlw {r1 r2 : Str} {A B : Ws} {K : Fl -> Ro -> Prop} (hA : A.cs.length <= 100) (hB : B.cs.length <= 100) : ∀ (js : List Nat) (a : List D), (∀ j ∈ js, j <= 900) -> a.length + js.length <= 2000 ->
  K .next [("a", .own (.list (a ++ (js.map fun j => wit1 geI A B (1 + j)).flatten))), ("other", .v (wsD r2 B)), ("self", .v (wsD r1 A))] ->
  forL (fun d ρ' => exsW (cx tb U1) c_nlw_b1 (("ts", .v d) :: ρ')) ["a", "other", "self"] (js.map fun (j : Nat) => D.int ((1 : Int) + (j : Nat))) [("a", .own (.list a)), ("other", .v (wsD r2 B)), ("self", .v (wsD r1 A))] K
 | [], a, _, _, h => by
  rw [map_nil, List.flatten_nil, append_nil] at h
  exact h
 | j :: js, a, hj, hl, h => by
  refine rwG map_cons ?_
  unfold forL
  refine rwG (show ((1 : Int) + (j : Nat)) = ((1 + j : Nat) : Int) by lia) ?_
  rw [length_cons] at hl
  have := hj j mem_cons_self
  refine body_nlw hA hB (by lia) (by lia) (by refine rwG sizeLine_eq ?_; lia) fun ρ hρ => ?_
  show forL _ _ _ (keepR _ ρ) K
  refine rwG hρ ?_
  have hw := wit1_len geI A B (1 + j)
  refine loop_nlw hA hB js _ (fun k hk => hj k (mem_cons_of_mem _ hk)) (by refine rwG length_append ?_; lia) ?_
  rw [map_cons, flatten_cons] at h
  rw [append_assoc]
  exact h
theorem w_nlw {r1 r2 : Str} {A B : Ws} {K : D -> Prop} (hA : A.cs.length <= 100) (hB : B.cs.length <= 100) (hA' : A.tr <= 100) (hB' : B.tr <= 100) (h : K (.list (witS geI A B))) :
  exsW (cx tb U1) c_nlw (["self", "other"].zip ([wsD r1 A, wsD r2 B].map Ent.v)) (fun fl _ => retK K fl) := by
 have hb := mx_bound hA hB hA' hB'
 unfold c_nlw
 ktr_room
 refine ⟨r1, A, rfl, hA, r2, B, rfl, hB, ?_⟩
 dsimp only
 refine ask_of q_maxW ?_
 refine ask_of q_addI ?_
 refine ⟨by refine rwG sizeLine_eq ?_; simp, rfl, ?_⟩
 refine ask_of q_addI ?_
 refine ⟨by constructor <;> decide, ⟨by lia, by lia⟩, ?_⟩
 unfold intL
 refine rwG (show (mx A B + 1 + 1 - 1).toNat = (mx A B).toNat + 1 by lia) ?_
 refine loop_nlw hA hB _ [] (fun j hj => by have := mem_range.mp hj; lia) (by refine rwG length_range (rwG length_nil ?_); lia) ?_
 ktr_room
 exact h
theorem body_new {K : Fl -> Ro -> Prop} (hA : A.cs.length <= 100) (hB : B.cs.length <= 100) (ht : 1 <= ts) (ht2 : ts <= 1000) (ha : a.length < sizeLine)
  (h : ∀ ρ, keepR ["a", "other", "self"] ρ = [("a", .own (.list (a ++ wit1 neI A B ts))), ("other", .v (wsD r2 B)), ("self", .v (wsD r1 A))] -> K .next ρ) :
  exsW (cx tb U1) c_new_b1 (("ts", .v (.int (ts : Int))) :: [("a", .own (.list a)), ("other", .v (wsD r2 B)), ("self", .v (wsD r1 A))]) K := by
 unfold c_new_b1
 ktr_room
 refine ⟨r1, A, ts, rfl, hA, ht, ht2, r2, B, ts, rfl, hB, ht, ht2, ?_⟩
 dsimp only
 refine ask_of q_neI ?_
 refine ⟨fun e => ?_, fun e => ?_⟩
 ·refine ⟨r1, A, ts, rfl, hA, ht, ht2, r2, B, ts, rfl, hB, ht, ht2, ?_⟩
  dsimp only
  refine ⟨by refine rwG sizeLine_eq ?_; simp, ?_⟩
  refine ask_of (q_app ha) ?_
  refine h _ ?_
  have : wit1 neI A B ts = [.tup [.int (ts : Int), .int (lvl A ts : Nat), .int (lvl B ts : Nat)]] := by
   unfold wit1
   exact rwG (if_pos (by simpa [neI] using e)) rfl
  refine rwG this ?_
  rfl
 ·refine h _ ?_
  have : wit1 neI A B ts = [] := by
   unfold wit1
   exact rwG (if_neg (by simpa [neI] using e)) rfl
  rw [this, append_nil]
  rfl
theorem loop_new {r1 r2 : Str} {A B : Ws} {K : Fl -> Ro -> Prop} (hA : A.cs.length <= 100) (hB : B.cs.length <= 100) : ∀ (js : List Nat) (a : List D), (∀ j ∈ js, j <= 900) -> a.length + js.length <= 2000 ->
  K .next [("a", .own (.list (a ++ (js.map fun j => wit1 neI A B (1 + j)).flatten))), ("other", .v (wsD r2 B)), ("self", .v (wsD r1 A))] ->
  forL (fun d ρ' => exsW (cx tb U1) c_new_b1 (("ts", .v d) :: ρ')) ["a", "other", "self"] (js.map fun (j : Nat) => D.int ((1 : Int) + (j : Nat))) [("a", .own (.list a)), ("other", .v (wsD r2 B)), ("self", .v (wsD r1 A))] K
 | [], a, _, _, h => by
  rw [map_nil, List.flatten_nil, append_nil] at h
  exact h
 | j :: js, a, hj, hl, h => by
  refine rwG map_cons ?_
  unfold forL
  refine rwG (show ((1 : Int) + (j : Nat)) = ((1 + j : Nat) : Int) by lia) ?_
  rw [length_cons] at hl
  have := hj j mem_cons_self
  refine body_new hA hB (by lia) (by lia) (by refine rwG sizeLine_eq ?_; lia) fun ρ hρ => ?_
  show forL _ _ _ (keepR _ ρ) K
  refine rwG hρ ?_
  have hw := wit1_len neI A B (1 + j)
  refine loop_new hA hB js _ (fun k hk => hj k (mem_cons_of_mem _ hk)) (by refine rwG length_append ?_; lia) ?_
  rw [map_cons, flatten_cons] at h
  rw [append_assoc]
  exact h
theorem w_new {r1 r2 : Str} {A B : Ws} {K : D -> Prop} (hA : A.cs.length <= 100) (hB : B.cs.length <= 100) (hA' : A.tr <= 100) (hB' : B.tr <= 100) (h : K (.list (witS neI A B))) :
  exsW (cx tb U1) c_new (["self", "other"].zip ([wsD r1 A, wsD r2 B].map Ent.v)) (fun fl _ => retK K fl) := by
 have hb := mx_bound hA hB hA' hB'
 unfold c_new
 ktr_room
 refine ⟨r1, A, rfl, hA, r2, B, rfl, hB, ?_⟩
 dsimp only
 refine ask_of q_maxW ?_
 refine ask_of q_addI ?_
 refine ⟨by refine rwG sizeLine_eq ?_; simp, rfl, ?_⟩
 refine ask_of q_addI ?_
 refine ⟨by constructor <;> decide, ⟨by lia, by lia⟩, ?_⟩
 unfold intL
 refine rwG (show (mx A B + 1 + 1 - 1).toNat = (mx A B).toNat + 1 by lia) ?_
 refine loop_new hA hB _ [] (fun j hj => by have := mem_range.mp hj; lia) (by refine rwG length_range (rwG length_nil ?_); lia) ?_
 ktr_room
 exact h
theorem body_less {K : Fl -> Ro -> Prop} (hA : A.cs.length <= 100) (hB : B.cs.length <= 100) (ht : 1 <= ts) (ht2 : ts <= 1000)
  (h1 : geI (lvl A ts : Nat) (lvl B ts : Nat) = true -> ∀ ρ, K (.ret (.bool false)) ρ) (h2 : geI (lvl A ts : Nat) (lvl B ts : Nat) = false -> K .next (("ts", .v (.int (ts : Int))) :: [("other", .v (wsD r2 B)), ("self", .v (wsD r1 A))])) :
  exsW (cx tb U1) c_less_b1 (("ts", .v (.int (ts : Int))) :: [("other", .v (wsD r2 B)), ("self", .v (wsD r1 A))]) K := by
 unfold c_less_b1
 ktr_room
 refine ⟨r1, A, ts, rfl, hA, ht, ht2, r2, B, ts, rfl, hB, ht, ht2, ?_⟩
 dsimp only
 refine ask_of q_geI ?_
 exact ⟨fun e => h1 e _, fun e => h2 e⟩
theorem loop_less {r1 r2 : Str} {A B : Ws} {K : Fl -> Ro -> Prop} (hA : A.cs.length <= 100) (hB : B.cs.length <= 100) : ∀ (js : List Nat), (∀ j ∈ js, j <= 900) ->
  ((js.all fun j => !geI (lvl A (2 + j) : Nat) (lvl B (2 + j) : Nat)) = true -> K .next [("other", .v (wsD r2 B)), ("self", .v (wsD r1 A))]) ->
  ((js.all fun j => !geI (lvl A (2 + j) : Nat) (lvl B (2 + j) : Nat)) = false -> ∀ ρ, K (.ret (.bool false)) ρ) ->
  forL (fun d ρ' => exsW (cx tb U1) c_less_b1 (("ts", .v d) :: ρ')) ["other", "self"] (js.map fun (j : Nat) => D.int ((2 : Int) + (j : Nat))) [("other", .v (wsD r2 B)), ("self", .v (wsD r1 A))] K
 | [], _, h, _ => h rfl
 | j :: js, hj, h, h' => by
  refine rwG map_cons ?_
  unfold forL
  refine rwG (show ((2 : Int) + (j : Nat)) = ((2 + j : Nat) : Int) by lia) ?_
  have := hj j mem_cons_self
  rw [all_cons] at h h'
  refine body_less hA hB (by lia) (by lia) (fun e ρ => ?_) (fun e => ?_)
  ·refine h' ?_ _
   refine rwG e ?_
   rfl
  ·rw [e] at h h'
   exact loop_less hA hB js (fun k hk => hj k (mem_cons_of_mem _ hk)) h h'
theorem and_if (h1 : (a && b) = true -> T) (h2 : (a && b) = false -> R) : (a = true -> (b = true -> T) /\ (b = false -> R)) /\ (a = false -> (false = true -> T') /\ (True -> R)) :=
 ⟨fun e => ⟨fun e' => h1 (by refine rwG e (rwG e' ?_); rfl), fun e' => h2 (by refine rwG e (rwG e' ?_); rfl)⟩, fun e => ⟨(fun q => nomatch q), fun _ => h2 (by refine rwG e ?_; rfl)⟩⟩
theorem w_less {r1 r2 : Str} {A B : Ws} {K : D -> Prop} (hA : A.cs.length <= 100) (hB : B.cs.length <= 100) (hA' : A.tr <= 100) (hB' : B.tr <= 100) (h : K (.bool (lessW A B))) :
  exsW (cx tb U1) c_less (["self", "other"].zip ([wsD r1 A, wsD r2 B].map Ent.v)) (fun fl _ => retK K fl) := by
 have hb := mx_bound hA hB hA' hB'
 unfold lessW at h
 unfold c_less
 ktr_room
 refine ⟨fun e => ?_, fun e => ?_⟩
 ·rw [if_pos (of_decide_eq_true e)] at h
  exact h
 rw [if_neg (of_decide_eq_false e)] at h
 refine and_if (fun e => ?_) fun e => ?_
 ·rw [if_pos e] at h
  exact h
 rw [if_neg (ne_true_of_eq_false e)] at h
 refine ⟨r1, A, rfl, hA, r2, B, rfl, hB, ?_⟩
 dsimp only
 refine ask_of q_maxW ?_
 refine ask_of q_addI ?_
 refine ask_of q_addI ?_
 refine ⟨by constructor <;> decide, ⟨by lia, by lia⟩, ?_⟩
 unfold intL
 refine rwG (show (mx A B + 1 + 1 - 2).toNat = (mx A B).toNat by lia) ?_
 refine loop_less hA hB _ (fun j hj => by have := mem_range.mp hj; lia) (fun e => ?_) (fun e ρ => ?_)
 ·rw [e] at h
  exact h
 ·rw [e] at h
  exact h
theorem beq_tab (c : Nat) : (st [c] == ofString "\t") = decide (c = 9) := by
 have : (st [c] == ofString "\t") = ([c] == [9]) := by
  rw [<- SeqAt.str_beq]
  rfl
 refine rwG this ?_
 by_cases h : c = 9 <;> simp [h]
theorem bump_len (cs : List Nat) (b : Nat) : (bump cs b).length <= max cs.length (b + 1) := by
 unfold bump
 simp only [List.length_set]
 split
 ·refine rwG length_append (rwG length_replicate ?_); lia
 ·lia
noncomputable def wsR (W : Ws) (self : D) : Ro := [("S", .v (.str (ofString " "))), ("T", .v (.str (ofString "\t"))), ("b", .v (.int (W.tr : Int))), ("count", .own (.list (natsD W.cs))), ("n", .v (.int (W.n : Int))), ("nt", .v (.int (W.nt : Int))), ("self", .own self)]
theorem item_nats {i : Nat} (h : i < cs.length) (h2 : i <= 1000) : itemD (.list (natsD cs)) (.int (i : Int)) = some (.int (cs.getD i 0 : Nat)) := by
 show (if smallB (i : Int) = true then atL (cs.map fun (c : Nat) => D.int (c : Int)) i else none) = _
 refine rwG (if_pos (smallN h2)) ?_
 unfold atL
 rw [seqIndex_of (by lia) (by rw [length_map]; lia)]
 simp [h]
theorem natsD_len (cs : List Nat) : (natsD cs).length = cs.length := by unfold natsD; rw [length_map]
theorem natsD_flat (cs : List Nat) : flatAll (natsD cs) = true := by
 unfold flatAll natsD
 rw [List.all_map, all_eq_true]
 intro _ _; rfl
theorem q_setL {i v : Nat} (h : i < cs.length) (h2 : i <= 1000) : setID (.list (natsD cs)) (.int (i : Int)) (.int (v : Int)) = some (.list (natsD (cs.set i v))) := by
 show (if 0 <= (i : Int) /\ (i : Int) < ((natsD cs).length : Int) /\ smallB (i : Int) = true then some (D.list ((natsD cs).set (i : Int).toNat (.int (v : Int)))) else none) = _
 rw [if_pos ⟨by lia, by rw [natsD_len]; lia, smallN h2⟩, Int.toNat_natCast]
 unfold natsD
 exact rwG List.map_set rfl
theorem rep_zero (n : Nat) : (List.replicate n [D.int 0]).flatten = natsD (List.replicate n 0) := by
 induction n with
 | zero => rfl
 | succ n ih => refine rwG replicate_succ (rwG replicate_succ (rwG flatten_cons (rwG ih ?_))); rfl
theorem body_init {W : Ws} {K : Fl -> Ro -> Prop} (hb : W.tr <= 900) (hl : W.cs.length <= 900)
  (h1 : c = 32 -> ∀ ρ, keepR ["S", "T", "b", "count", "n", "nt", "self"] ρ = wsR ⟨W.n + 1, W.nt, W.tr + 1, W.cs⟩ self -> K .next ρ)
  (h2 : c = 9 -> ∀ ρ, keepR ["S", "T", "b", "count", "n", "nt", "self"] ρ = wsR ⟨W.n + 1, W.nt + 1, 0, bump W.cs W.tr⟩ self -> K .next ρ)
  (h3 : c ≠ 32 -> c ≠ 9 -> ∀ ρ, keepR ["S", "T", "b", "count", "n", "nt", "self"] ρ = wsR W self -> K .brk ρ) :
  exsW (cx tb U) c_init_b1 (("ch", .v (.str (st [c]))) :: wsR W self) K := by
 unfold c_init_b1 wsR
 ktr_room
 rw [beq_sp]
 refine ⟨fun e => ?_, fun e => ?_⟩
 ·have e := of_decide_eq_true e
  exact h1 e _ rfl
 have e := of_decide_eq_false e
 rw [beq_tab]
 refine ⟨fun e' => ?_, fun e' => ?_⟩
 ·have e' := of_decide_eq_true e'
  rw [q_lenL (by rw [natsD_len, sizeLine_eq]; lia), natsD_len]
  ktr_room
  refine ⟨fun g => ?_, fun g => ?_⟩
  ·have g : W.tr >= W.cs.length := by have := of_decide_eq_true g; lia
   refine ⟨by refine rwG sizeLine_eq ?_; simp, ?_⟩
   refine ask_of (q_mulL (by simp only [length_singleton]; lia) (of_small (by lia))) ?_
   rw [rep_zero]
   rw [show ((W.tr : Int) - (W.cs.length : Int) + 1).toNat = W.tr - W.cs.length + 1 by lia]
   refine ask_of (q_addL (by rw [natsD_len, natsD_len, length_replicate, sizeLine_eq]; lia)) ?_
   have ea : natsD W.cs ++ natsD (List.replicate (W.tr - W.cs.length + 1) 0) = natsD (W.cs ++ List.replicate (W.tr - W.cs.length + 1) 0) := by unfold natsD; exact rwG map_append rfl
   refine rwG ea ?_
   refine ⟨natsD_flat _, ?_⟩
   have hlt : W.tr < (W.cs ++ List.replicate (W.tr - W.cs.length + 1) 0).length := by refine rwG length_append (rwG length_replicate ?_); lia
   refine ask_of (item_nats hlt (by lia)) ?_
   ktr_room
   refine rwG (show ((getD (W.cs ++ List.replicate (W.tr - W.cs.length + 1) 0) W.tr 0 : Nat) : Int) + 1 = ((getD (W.cs ++ List.replicate (W.tr - W.cs.length + 1) 0) W.tr 0 + 1 : Nat) : Int) from rfl) ?_
   refine ask_of (q_setL hlt (by lia)) ?_
   refine h2 e' _ ?_
   have : bump W.cs W.tr = (W.cs ++ List.replicate (W.tr - W.cs.length + 1) 0).set W.tr (getD (W.cs ++ List.replicate (W.tr - W.cs.length + 1) 0) W.tr 0 + 1) := by
    unfold bump
    exact rwG (if_pos g) rfl
   refine rwG this ?_
   rfl
  ·have g : ¬ W.tr >= W.cs.length := by have := of_decide_eq_false g; lia
   have hlt : W.tr < W.cs.length := by lia
   refine ask_of (item_nats hlt (by lia)) ?_
   ktr_room
   refine rwG (show ((getD W.cs W.tr 0 : Nat) : Int) + 1 = ((getD W.cs W.tr 0 + 1 : Nat) : Int) from rfl) ?_
   refine ask_of (q_setL hlt (by lia)) ?_
   refine h2 e' _ ?_
   have : bump W.cs W.tr = W.cs.set W.tr (getD W.cs W.tr 0 + 1) := by
    unfold bump
    exact rwG (if_neg g) rfl
   rw [this]
   rfl
 ·have e' := of_decide_eq_false e'
  exact h3 e e' _ rfl
theorem loop_init {U : Ut} {self : D} {K : Fl -> Ro -> Prop} : ∀ (l : List Nat) (W : Ws), W.tr + l.length <= 900 -> W.cs.length <= 900 ->
  K .next (wsR (wsGo l W) self) -> forL (fun d ρ' => exsW (cx tb U) c_init_b1 (("ch", .v d) :: ρ')) ["S", "T", "b", "count", "n", "nt", "self"] (l.map fun c => D.str (st [c])) (wsR W self) K
 | [], W, _, _, h => h
 | c :: l, W, ht, hc, h => by
  refine rwG map_cons ?_
  unfold forL
  rw [length_cons] at ht
  unfold wsGo at h
  refine body_init (by lia) (by lia) (fun e ρ hρ => ?_) (fun e ρ hρ => ?_) (fun e e' ρ hρ => ?_)
  ·rw [if_pos e] at h
   show forL _ _ _ (keepR _ ρ) K
   refine rwG hρ ?_
   exact loop_init l _ (by show W.tr + 1 + l.length <= 900; lia) hc h
  ·rw [if_neg (by lia), if_pos e] at h
   show forL _ _ _ (keepR _ ρ) K
   refine rwG hρ ?_
   have := bump_len W.cs W.tr
   exact loop_init l _ (by show 0 + l.length <= 900; lia) (by show (bump W.cs W.tr).length <= 900; lia) h
  ·rw [if_neg e, if_neg e'] at h
   show K .next (keepR _ ρ)
   refine rwG hρ ?_
   exact h
theorem x_setA_of (h1 : name ∈ tb.fields) (h2 : ks.contains (ofString name) = false) (h3 : ks.length <= 900) :
  (cx tb U).setA (.inst 117 ks ds) name e k = k (.inst 117 (ks ++ [ofString name]) (ds ++ [e])) := by
 show ((117 : Addr) = tb.wc /\ name ∈ tb.fields /\ ks.contains (ofString name) = false /\ ks.length <= 900 /\ _) = _
 exact propext ⟨fun h => h.2.2.2.2, fun h => ⟨rfl, h1, h2, h3, h⟩⟩
theorem q_tuple (h : xs.length <= sizeLine) : fnD (.type "tuple") [.list xs] = some (.tup xs) := by
 show (if xs.length <= sizeLine then some (D.tup xs) else none) = _
 exact if_pos h
theorem wsGo_bound : ∀ (l : List Nat) (W : Ws), W.tr + l.length <= 900 -> W.cs.length <= 900 -> (wsGo l W).tr <= 900 /\ (wsGo l W).cs.length <= 900
 | [], W, h, h' => by
  rw [length_nil] at h
  exact ⟨by show W.tr <= 900; lia, h'⟩
 | c :: l, W, h, h' => by
  rw [length_cons] at h
  unfold wsGo
  split
  ·exact wsGo_bound l _ (by show W.tr + 1 + l.length <= 900; lia) h'
  ·split
   ·have := bump_len W.cs W.tr
    exact wsGo_bound l _ (by show 0 + l.length <= 900; lia) (by show (bump W.cs W.tr).length <= 900; lia)
   ·exact ⟨by lia, h'⟩
theorem setA_of (h1 : name ∈ tb.fields) (h2 : ks.contains (ofString name) = false) (h3 : ks.length <= 900) (h : k (.inst 117 (ks ++ [ofString name]) (ds ++ [e]))) :
  (cx tb U).setA (.inst 117 ks ds) name e k := (x_setA_of h1 h2 h3).mpr h
theorem w_init {K : Fl -> Ro -> Prop} (hl : l.length <= 900) (h : ∀ ρ, ρ.lookup "self" = some (.own (wsD (st l) (wsOf l))) -> K .next ρ) :
  exsW (cx tb U) c_init [("self", .own (.inst 117 [] [])), ("ws", .v (.str (st l)))] K := by
 unfold c_init
 ktr_room
 refine setA_of (by decide) rfl (by decide) ?_
 refine ⟨rfl, ask_of (a := ofString " ") rfl ⟨rfl, ask_of (a := ofString "\t") rfl ?_⟩⟩
 ktr_room
 refine ⟨by refine rwG sizeLine_eq ?_; simp, rfl, ?_⟩
 refine rwG (attr_of (d := .str (st l)) (by decide) rfl rfl) ?_
 dsimp only
 rw [signs_st]
 refine loop_init l ⟨0, 0, 0, []⟩ (by show 0 + l.length <= 900; lia) (by show 0 <= 900; lia) ?_
 have hb := wsGo_bound l ⟨0, 0, 0, []⟩ (by show 0 + l.length <= 900; lia) (by show 0 <= 900; lia)
 unfold wsR
 ktr_room
 refine setA_of (by decide) (by decide +kernel) (by decide) ?_
 ktr_room
 refine setA_of (by decide) (by decide +kernel) (by decide) ?_
 ktr_room
 refine ask_of (q_tuple (by rw [natsD_len, sizeLine_eq]; lia)) ?_
 refine ⟨by refine rwG sizeLine_eq ?_; simp, ?_⟩
 refine setA_of (by decide) (by decide +kernel) (by decide) ?_
 ktr_room
 refine ask_of (q_lenL (by rw [natsD_len, sizeLine_eq]; lia)) ?_
 rw [natsD_len]
 ktr_room
 refine setA_of (by decide) (by decide +kernel) (by decide) ?_
 refine h _ ?_
 refine rwG lookup_cons ?_
 simp only [beq_self_eq_true]
 have : decide (((wsGo l ⟨0, 0, 0, []⟩).cs.length : Int) <= 1) = decide ((wsGo l ⟨0, 0, 0, []⟩).cs.length <= 1) := decide_eq_decide.mpr (by lia)
 refine rwG this ?_
 rfl
theorem mem_wds : ∀ {l : List Nat}, Blank l -> l ∈ wds l.length
 | [], _ => by simp [wds]
 | c :: l, h => by
  have ih := mem_wds (l := l) fun d hd => h d (mem_cons_of_mem _ hd)
  show c :: l ∈ (wds l.length).flatMap _
  rw [List.mem_flatMap]
  refine ⟨l, ih, ?_⟩
  rcases h c mem_cons_self with rfl | rfl <;> simp
theorem Lead.mem (h : Lead l) : l ∈ leads := List.mem_flatMap.mpr ⟨l.length, mem_range.mpr (by have := h.len; lia), mem_wds h.b⟩
theorem lead_all (h : leads.all p = true) (hl : Lead l) : p l = true := all_eq_true.mp h l hl.mem
noncomputable def turnedD (l : List Nat) : Option D :=
 (fnBu "str.split" [.str (st l), .str (ofString "\t")]).bind fun runs => (sliceD runs none (some (.int (-1))) none).bind fun a => (sliceD a none none (some (.int (-1)))).bind fun b => (sliceD runs (some (.int (-1))) none none).bind fun c =>
  (binD .Add b c).bind fun e => fnBu "str.join" [.str (ofString "\t"), e]
noncomputable def blankD (d : Option D) : Bool := match d with
 | some (.str s) => s.cps.toList.all (fun c => decide (c = 32 \/ c = 9)) && decide (s.length <= 1000)
 | _ => false
theorem turned_all : (leads.all fun l => blankD (turnedD l)) = true := by decide +kernel
structure BL (l : List Nat) : Prop where
 b : Blank l
 len : l.length <= 1000
theorem Lead.bl (h : Lead l) : BL l := ⟨h.b, by have := h.len; lia⟩
theorem turned_is (h : Lead l) : ∃ t, turnedD l = some (.str (st t)) /\ BL t := by
 have := lead_all turned_all h
 unfold blankD at this
 split at this
 ·rename_i s q
  rw [Bool.and_eq_true, all_eq_true] at this
  refine ⟨s.cps.toList, ?_, fun c hc => of_decide_eq_true (this.1 c hc), of_decide_eq_true this.2⟩
  refine rwG q ?_
  show some (D.str s) = some (.str ⟨s.cps.toList.toArray⟩)
  exact rwG Array.toArray_toList rfl
 ·injection this
theorem join_mem (sep : Str) : ∀ (ts : List Str) (c : Nat), c ∈ (Str.join sep ts).cps.toList -> (∃ t ∈ ts, c ∈ t.cps.toList) \/ c ∈ sep.cps.toList
 | [], c, h => by
  have : (Str.join sep []).cps.toList = [] := rfl
  rw [this] at h; cases h
 | [x], c, h => .inl ⟨x, mem_singleton.mpr rfl, h⟩
 | x :: y :: r, c, h => by
  have e : (Str.join sep (x :: y :: r)).cps.toList = x.cps.toList ++ sep.cps.toList ++ (Str.join sep (y :: r)).cps.toList := by
   show (x.cps ++ sep.cps ++ (Str.join sep (y :: r)).cps).toList = _
   exact rwG Array.toList_append (rwG Array.toList_append rfl)
  rw [e] at h
  rcases mem_append.mp h with h | h
  ·rcases mem_append.mp h with h | h
   ·exact .inl ⟨x, mem_cons_self, h⟩
   ·exact .inr h
  ·rcases join_mem sep (y :: r) c h with ⟨t, ht, hc⟩ | h
   ·exact .inl ⟨t, mem_cons_of_mem _ ht, hc⟩
   ·exact .inr h
theorem fmod_range (x m : Int) (h : 0 < m) : 0 <= x.fmod m /\ x.fmod m < m := ⟨Int.fmod_nonneg_of_pos x h, Int.fmod_lt_of_pos x h⟩
theorem item_strs (h0 : 0 <= i) (h1 : i < ls.length) (h2 : ls.length <= 1000) : ∃ l, l ∈ ls /\ itemD (.list (strsD ls)) (.int i) = some (.str (st l)) := by
 have hi : i.toNat < ls.length := by lia
 refine ⟨ls[i.toNat], List.getElem_mem hi, ?_⟩
 show (if smallB i = true then atL (strsD ls) i else none) = _
 refine rwG (if_pos (of_small (by lia))) ?_
 unfold atL strsD
 rw [seqIndex_of h0 (by rw [length_map]; lia)]
 simp [hi]
theorem item_last : itemD (.list (strsD (ls ++ [l]))) (.int (-1)) = some (.str (st l)) := by
 show (if smallB (-1) = true then atL (strsD (ls ++ [l])) (-1) else none) = _
 refine rwG (if_pos (by decide)) ?_
 unfold atL strsD
 rw [length_map, length_append, length_singleton]
 have : seqIndex? (-1) (ls.length + 1) = some ls.length := by
  unfold seqIndex?
  simp
  lia
 rw [this]
 simp
theorem free_el {i : Nat} (hi : i < 4) : ∃ l : List Nat, BL l /\ l.length <= 1 /\ ∀ k : D -> Prop, k (.str (st l)) ->
  (ask (binD .FloorDiv (.int x) (.int 13824)) fun a => ask (binD .Pow (.int 3) (.int (i : Int))) fun b => ask (binD .FloorDiv a b) fun c => ask (binD .Mod c (.int 3)) fun y => ask (itemD (.list [.str (ofString ""), .str (ofString " "), .str (ofString "\t")]) y) k) := by
 have hp : (3 : Int) ^ (i : Int).toNat ≠ 0 /\ smallB ((3 : Int) ^ (i : Int).toNat) = true := by
  rw [Int.toNat_natCast]
  have : i = 0 \/ i = 1 \/ i = 2 \/ i = 3 := by lia
  rcases this with rfl | rfl | rfl | rfl <;> decide
 obtain ⟨l, hl, e⟩ := item_strs (ls := [[], [32], [9]]) (i := ((x.fdiv 13824).fdiv ((3 : Int) ^ (i : Int).toNat)).fmod 3) (fmod_range _ 3 (by decide)).1 (fmod_range _ 3 (by decide)).2 (by decide)
 have hb : BL l /\ l.length <= 1 := by
  simp only [mem_cons, not_mem_nil, or_false] at hl
  rcases hl with rfl | rfl | rfl
  ·exact ⟨⟨(fun c hc => nomatch hc), by decide⟩, by decide⟩
  ·exact ⟨⟨fun c hc => .inl (by simpa using hc), by decide⟩, by decide⟩
  ·exact ⟨⟨fun c hc => .inr (by simpa using hc), by decide⟩, by decide⟩
 refine ⟨l, hb.1, hb.2, fun k hk => ?_⟩
 refine ask_of (q_divI (by decide) (by decide)) ?_
 refine ask_of (q_powI (by decide) (by lia) (by lia)) ?_
 refine ask_of (q_divI hp.1 hp.2) ?_
 refine ask_of (q_modI (by decide)) ?_
 have e' : [D.str (ofString ""), .str (ofString " "), .str (ofString "\t")] = strsD [[], [32], [9]] := by
  unfold strsD
  simp only [map_cons, map_nil]
  exact rwG (show ofString "" = st [] from by decide +kernel) (rwG (show ofString " " = st [32] from by decide +kernel) (rwG (show ofString "\t" = st [9] from by decide +kernel) rfl))
 refine rwG e' ?_
 refine ask_of e ?_
 exact hk
theorem st_app (a b : List Nat) : st a ++ st b = st (a ++ b) := by
 show (⟨a.toArray ++ b.toArray⟩ : Str) = ⟨(a ++ b).toArray⟩
 rw [List.append_toArray]
theorem s_sp : ofString " " = st [32] := by decide +kernel
theorem s_tab : ofString "\t" = st [9] := by decide +kernel
theorem join_one (h1 : ts.length <= 100) (h2 : ∀ t ∈ ts, BL t /\ t.length <= 1) : ∃ t, BL t /\ fnBu "str.join" [.str (ofString ""), .list (strsD ts)] = some (.str (st t)) := by
 have hts : strsD ts = (ts.map st).map .str := by unfold strsD; refine rwG map_map ?_; rfl
 have hl : ∀ t ∈ ts.map st, t.length <= 1000 := fun t ht => by
  apply xEAq2R (mem_map.mp ht); intro l hm
  have := (h2 l hm).2
  rw [len_st]; lia
 obtain ⟨j1, j2⟩ := join_small (sep := ofString "") (texts := ts.map st) (by rw [length_map]; lia) hl (by decide)
 have e : Txt.join (ofString "") (ts.map st) = Str.join (ofString "") (ts.map st) := StrLaws.glued_eq_join _ _
 refine ⟨(Txt.join (ofString "") (ts.map st)).cps.toList, ⟨fun c hc => ?_, ?_⟩, ?_⟩
 ·rw [e] at hc
  rcases join_mem _ _ c hc with ⟨t, ht, hc⟩ | hc
  ·refine xEA (mem_map.mp ht) fun l hm z1q => ?_; obtain rfl := z1q
   exact (h2 l hm).1.b c (by simpa [st] using hc)
  ·have : (ofString "").cps.toList = [] := by decide +kernel
   rw [this] at hc; cases hc
 ·refine rwG e ?_
  have := StrLaws.join_length_le (ofString "") (ts.map st)
  rw [show (ofString "").length = 0 by decide +kernel, Nat.mul_zero, Nat.add_zero] at this
  have hs : ((ts.map st).map (·.length)).sum <= ts.length * 1 := by
   clear j1 j2 e this hl hts h1
   induction ts with
   | nil => simp
   | cons t r ih =>
    have h1 := (h2 t mem_cons_self).2
    have := ih fun u hu => h2 u (mem_cons_of_mem _ hu)
    rw [map_cons, map_cons, List.sum_cons, length_cons, len_st]
    lia
  show (Str.join _ _).length <= 1000
  lia
 ·refine rwG hts (rwG (q_join j1) ?_)
  show _ = some (D.str ⟨_⟩)
  exact rwG Array.toArray_toList rfl
theorem BL.app {a b : List Nat} (ha : BL a) (hb : Blank b) (h : a.length + b.length <= 1000) : BL (a ++ b) := ⟨fun c hc => (mem_append.mp hc).elim (ha.b c) (hb c), by refine rwG length_append ?_; exact h⟩
theorem q_catS (h : a.length + b.length <= 100000) : binD .Add (.str (st a)) (.str (st b)) = some (.str (st (a ++ b))) := by
 rw [q_addS (by rw [len_st, len_st, sizeLine_eq]; lia), st_app]
theorem op_small : (ops.all fun p => decide (1 <= p.length /\ p.length <= 3) && p.all fun c => decide (c < 128 /\ c ≠ 32 /\ c ≠ 9) && op [c]) = true := by decide +kernel
theorem op_at (h : p ∈ ops) : (1 <= p.length /\ p.length <= 3) /\ ∀ c ∈ p, c < 128 /\ c ≠ 32 /\ c ≠ 9 /\ op [c] = true := by
 have := all_eq_true.mp op_small p h
 rw [Bool.and_eq_true, all_eq_true] at this
 refine ⟨of_decide_eq_true this.1, fun c hc => ?_⟩
 have h2 := this.2 c hc
 rw [Bool.and_eq_true] at h2
 have h3 := of_decide_eq_true h2.1
 exact ⟨h3.1, h3.2.1, h3.2.2, h2.2⟩
theorem take_lead (h : BL l) : ∃ m, Lead m /\ sliceD (.str (st l)) none (some (.int 6)) none = some (.str (st m)) := by
 have := q_sliceS (l := l) (a := none) (b := some (.int 6)) (lo := none) (hi := some 6) rfl rfl (by have := h.len; refine rwG sizeLine_eq ?_; lia)
 refine ⟨_, ⟨fun c hc => h.b c (mem_of_mem_drop (mem_of_mem_take hc)), ?_⟩, this⟩
 refine rwG length_take ?_
 have e : clipAt l.length 6 = min 6 l.length := clipAt_nat l.length 6
 simp only [Option.elim_some, Option.elim_none, e]
 lia
theorem turned_use (ht : turnedD l = some t) {k : D -> D -> Prop} (h : ∀ runs, k runs t) :
  ask (fnBu "str.split" [.str (st l), .str (ofString "\t")]) fun runs => ask (sliceD runs none (some (.int (-1))) none) fun a => ask (sliceD a none none (some (.int (-1)))) fun b => ask (sliceD runs (some (.int (-1))) none none) fun c =>
   ask (binD .Add b c) fun e => ask (fnBu "str.join" [.str (ofString "\t"), e]) fun d => k runs d := by
 unfold turnedD at ht
 refine xEA (Option.bind_eq_some_iff.mp ht) fun runs e1 ht => ?_
 refine xEA (Option.bind_eq_some_iff.mp ht) fun a e2 ht => ?_
 refine xEA (Option.bind_eq_some_iff.mp ht) fun b e3 ht => ?_
 refine xEA (Option.bind_eq_some_iff.mp ht) fun c e4 ht => ?_
 refine xEA (Option.bind_eq_some_iff.mp ht) fun e e5 ht => ?_
 refine ask_of e1 ?_
 refine ask_of e2 ?_
 refine ask_of e3 ?_
 refine ask_of e4 ?_
 refine ask_of e5 ?_
 refine ask_of ht ?_
 exact h runs
theorem body_page {ls : List (List Nat)} {last : List Nat} {K : Fl -> Ro -> Prop} (hl : ∀ l ∈ ls ++ [last], Lead l) (hn : ls.length <= 900) (hn' : lines.length <= 900)
  (h : ∀ lead t1 t2, Lead lead -> t1 ∈ ops -> t2 ∈ ops -> ∀ ρ, keepR ["leads", "lines", "texts"] ρ = [("leads", .own (.list (strsD (ls ++ [last] ++ [lead])))), ("lines", .own (.list (strsD (lines ++ [lead ++ t1 ++ t2])))), ("texts", .v (.list opsD))] -> K .next ρ) :
  exsW (cx tb U1) c_page_b1 (("x", .v (.int x)) :: [("leads", .own (.list (strsD (ls ++ [last])))), ("lines", .own (.list (strsD lines))), ("texts", .v (.list opsD))]) K := by
 have hlast : Lead last := hl last (List.mem_append_right _ (mem_singleton.mpr rfl))
 have hlen := hlast.len
 refine xEA (turned_is hlast) fun t ht htb => ?_
 obtain ⟨g, hg⟩ := Classical.axiomOfChoice (r := fun (i : Nat) (l : List Nat) => i < 4 -> BL l /\ l.length <= 1 /\ ∀ k : D -> Prop, k (.str (st l)) ->
  (ask (binD .FloorDiv (.int x) (.int 13824)) fun a => ask (binD .Pow (.int 3) (.int (i : Int))) fun b => ask (binD .FloorDiv a b) fun c => ask (binD .Mod c (.int 3)) fun y => ask (itemD (.list [.str (ofString ""), .str (ofString " "), .str (ofString "\t")]) y) k)) (fun i => by
   by_cases hi : i < 4
   ·refine xE (free_el (x := x) hi) fun l a => ?_
    exact ⟨l, fun _ => a⟩
   ·exact ⟨[], fun q => absurd q hi⟩)
 unfold c_page_b1
 ktr_room
 refine ask_of item_last ?_
 ktr_room
 refine turned_use ht fun runs => ?_
 refine ⟨by constructor <;> decide, by refine rwG sizeLine_eq ?_; decide, ?_⟩
 rw [intL_zero]
 refine compL_m (p := fun _ => true) (g := fun i => .str (st (g i))) _ _ (fun i _ k hk => hk) (fun i hi _ k hk => ⟨by refine rwG sizeLine_eq ?_; simp, ?_⟩) ?_
 ·exact (hg i (by have := mem_range.mp hi; lia)).2.2 k hk
 rw [nil_append, filter_eq_self.mpr (fun _ _ => rfl)]
 have e1 : List.map (fun i => D.str (st (g i))) (List.range (4 : Int).toNat) = strsD ((List.range 4).map g) := by unfold strsD; refine rwG map_map ?_; rfl
 rw [e1]
 obtain ⟨f, hfb, hf⟩ := join_one (ts := (List.range 4).map g) (by rw [length_map, length_range]; lia) (fun u hu => by
  apply xEAq2R (mem_map.mp hu); intro i hi
  have := hg i (mem_range.mp hi)
  exact ⟨this.1, this.2.1⟩)
 refine ask_of hf ?_
 refine rwG s_sp (rwG s_tab ?_)
 refine ask_of (q_catS (by simp only [length_singleton]; lia)) ?_
 refine ask_of (q_catS (by simp only [length_singleton]; lia)) ?_
 refine ask_of (q_sliceS (lo := none) (hi := some (-1)) rfl rfl (by refine rwG sizeLine_eq ?_; lia)) ?_
 have hsl : (strsD (ls ++ [last])).length = ls.length + 1 := by unfold strsD; rw [length_map, length_append, length_singleton]
 refine ask_of (q_lenL (by refine rwG hsl (rwG sizeLine_eq ?_); lia)) ?_
 refine rwG hsl ?_
 refine ask_of (q_divI (by decide) (by decide)) ?_
 have hdiv : ((ls.length + 1 : Nat) : Int).fdiv 2 = (((ls.length + 1) / 2 : Nat) : Int) := fdiv_nat _ 2
 refine rwG hdiv ?_
 obtain ⟨mid, hmid, emid⟩ := item_strs (ls := ls ++ [last]) (i := (((ls.length + 1) / 2 : Nat) : Int)) (by lia) (by refine rwG length_append (rwG length_singleton ?_); lia) (by refine rwG length_append (rwG length_singleton ?_); lia)
 refine ask_of emid ?_
 refine ⟨by refine rwG sizeLine_eq ?_; simp, ?_⟩
 refine ask_of (q_modI (by decide)) ?_
 have hr6 := fmod_range x 6 (by decide)
 obtain ⟨pick, hpick, epick⟩ := item_strs (ls := [t, last ++ [32], last ++ [9], (last.drop ((none : Option Int).elim 0 (clipAt last.length))).take ((some (-1 : Int)).elim last.length (clipAt last.length) - (none : Option Int).elim 0 (clipAt last.length)), mid, f]) (i := x.fmod 6) hr6.1 hr6.2 (by simp)
 have hpb : BL pick := by
  simp only [mem_cons, not_mem_nil, or_false] at hpick
  rcases hpick with rfl | rfl | rfl | rfl | rfl | rfl
  ·exact htb
  ·exact hlast.bl.app (fun c hc => .inl (by simpa using hc)) (by simp only [length_singleton]; lia)
  ·exact hlast.bl.app (fun c hc => .inr (by simpa using hc)) (by simp only [length_singleton]; lia)
  ·refine ⟨fun c hc => hlast.b c (mem_of_mem_drop (mem_of_mem_take hc)), ?_⟩
   refine rwG length_take (rwG length_drop ?_)
   lia
  ·exact (hl _ hmid).bl
  ·exact hfb
 refine xEA (take_lead hpb) fun lead hlead elead => ?_
 have e2 : ∀ k : D -> Prop, ask (itemD (.list [.str (st t), .str (st (last ++ [32])), .str (st (last ++ [9])), .str (st ((last.drop ((none : Option Int).elim 0 (clipAt last.length))).take ((some (-1 : Int)).elim last.length (clipAt last.length) - (none : Option Int).elim 0 (clipAt last.length)))), .str (st mid), .str (st f)]) (.int (x.fmod 6))) k = k (.str (st pick)) := fun k => by
  show ask (itemD (.list (strsD [t, last ++ [32], last ++ [9], _, mid, f])) _) k = _
  exact rwG epick (rwG ask_some rfl)
 rw [e2]
 refine ask_of elead ?_
 refine ask_of (q_app (by refine rwG hsl (rwG sizeLine_eq ?_); lia)) ?_
 refine ask_of (q_divI (by decide) (by decide)) ?_
 refine ask_of q_addI ?_
 refine ask_of (q_modI (by decide)) ?_
 have hops : ops.length = 48 := by decide +kernel
 have hopD : opsD = strsD ops := rfl
 have r48 := fmod_range (x.fdiv 6 + 13) 48 (by decide)
 obtain ⟨t1, ht1, et1⟩ := item_strs (ls := ops) (i := (x.fdiv 6 + 13).fmod 48) r48.1 (by refine rwG hops ?_; exact r48.2) (by refine rwG hops ?_; decide)
 have r48' := fmod_range (x.fdiv 288 + 9) 48 (by decide)
 obtain ⟨t2, ht2, et2⟩ := item_strs (ls := ops) (i := (x.fdiv 288 + 9).fmod 48) r48'.1 (by refine rwG hops ?_; exact r48'.2) (by refine rwG hops ?_; decide)
 have q1 := (op_at ht1).1
 have q2 := (op_at ht2).1
 have q3 := hlead.len
 refine rwG hopD ?_
 refine ask_of et1 ?_
 refine ask_of (q_catS (by lia)) ?_
 refine ask_of (q_divI (by decide) (by decide)) ?_
 refine ask_of q_addI ?_
 refine ask_of (q_modI (by decide)) ?_
 refine ask_of et2 ?_
 refine ask_of (q_catS (by refine rwG length_append ?_; lia)) ?_
 have hsl' : (strsD lines).length = lines.length := by unfold strsD; rw [length_map]
 refine ask_of (q_app (by refine rwG hsl' (rwG sizeLine_eq ?_); lia)) ?_
 refine h lead t1 t2 hlead ht1 ht2 _ ?_
 have a1 : strsD (ls ++ [last] ++ [lead]) = strsD (ls ++ [last]) ++ [.str (st lead)] := by unfold strsD; refine rwG map_append ?_; rfl
 have a2 : strsD (lines ++ [lead ++ t1 ++ t2]) = strsD lines ++ [.str (st (lead ++ t1 ++ t2))] := by unfold strsD; refine rwG map_append ?_; rfl
 refine rwG a1 (rwG a2 ?_)
 rfl
theorem loop_page {K : Fl -> Ro -> Prop} : ∀ (xs : List Int) (ls : List (List Nat)) (last : List Nat) (lines : List (List Nat)), (∀ l ∈ ls ++ [last], Lead l) -> ls.length + xs.length <= 900 -> lines.length + xs.length <= 900 -> (∀ l ∈ lines, LineOk l) ->
  (∀ lines' d, lines'.length = lines.length + xs.length -> (∀ l ∈ lines', LineOk l) -> K .next [("leads", .own d), ("lines", .own (.list (strsD lines'))), ("texts", .v (.list opsD))]) ->
  forL (fun d ρ' => exsW (cx tb U1) c_page_b1 (("x", .v d) :: ρ')) ["leads", "lines", "texts"] (xs.map .int) [("leads", .own (.list (strsD (ls ++ [last])))), ("lines", .own (.list (strsD lines))), ("texts", .v (.list opsD))] K
 | [], ls, last, lines, _, _, _, hok, h => h lines _ rfl hok
 | x :: xs, ls, last, lines, hl, h1, h2, hok, h => by
  refine rwG map_cons ?_
  unfold forL
  rw [length_cons] at h1 h2
  refine body_page hl (by lia) (by lia) fun lead t1 t2 hle h1' h2' ρ hρ => ?_
  show forL _ _ _ (keepR _ ρ) K
  refine rwG hρ ?_
  refine loop_page xs (ls ++ [last]) lead (lines ++ [lead ++ t1 ++ t2]) ?_ (by refine rwG length_append (rwG length_singleton ?_); lia) (by refine rwG length_append (rwG length_singleton ?_); lia) ?_ ?_
  ·intro l hm
   rcases mem_append.mp hm with hm | hm
   ·exact hl l hm
   ·refine rwG (mem_singleton.mp hm) ?_; exact hle
  ·intro l hm
   rcases mem_append.mp hm with hm | hm
   ·exact hok l hm
   ·exact ⟨lead, t1, t2, mem_singleton.mp hm, hle, h1', h2'⟩
  ·intro lines' d e hk
   refine h lines' d ?_ hk
   refine rwG e (rwG length_append (rwG length_singleton (rwG length_cons ?_)))
   lia
theorem w_page {xs : List Int} {K : D -> Prop} (hn : xs.length <= 900) (h : ∀ lines, lines.length = xs.length -> (∀ l ∈ lines, LineOk l) -> K (.list (strsD lines))) :
  exsW (cx tb U1) c_page (["numbers"].zip ([D.list (xs.map .int)].map Ent.v)) (fun fl _ => retK K fl) := by
 unfold c_page
 ktr_room
 refine ⟨rfl, ?_⟩
 refine ⟨by refine rwG sizeLine_eq ?_; simp, rfl, by refine rwG sizeLine_eq ?_; simp, rfl, ?_⟩
 refine rwG (show ofString "" = st [] from by decide +kernel) ?_
 refine loop_page xs [] [] [] (fun l hl => ?_) (by simp only [length_nil]; lia) (by simp only [length_nil]; lia) (fun l hl => nomatch hl) fun lines' d e hk => ?_
 ·refine rwG (mem_singleton.mp hl) ?_
  exact ⟨(fun c hc => nomatch hc), by decide⟩
 ·ktr_room
  rw [length_nil, Nat.zero_add] at e
  exact h lines' e hk
structure LineAt (l lead body : List Nat) : Prop where
 eq : l = lead ++ body
 lead : Lead lead
 len : 2 <= body.length /\ body.length <= 6
 chars : ∀ c ∈ body, c < 128 /\ c ≠ 32 /\ c ≠ 9 /\ op [c] = true
 two : ∃ t1 t2, body = t1 ++ t2 /\ t1 ∈ ops /\ t2 ∈ ops
theorem tw_app : ∀ {a b : List Nat}, (∀ c ∈ a, p c = true) -> (∀ c ∈ b, p c = false) -> (a ++ b).takeWhile p = a /\ (a ++ b).dropWhile p = b
 | [], [], _, _ => ⟨rfl, rfl⟩
 | [], c :: b, _, h => by
  have := h c mem_cons_self
  rw [nil_append, takeWhile_cons, List.dropWhile_cons, this]
  exact ⟨rfl, rfl⟩
 | c :: a, b, h, h' => by
  have h1 := h c mem_cons_self
  refine xA (tw_app (p := p) (a := a) (b := b) (fun d hd => h d (mem_cons_of_mem _ hd)) h') fun i1 i2 => ?_
  refine rwG List.cons_append (rwG takeWhile_cons (rwG List.dropWhile_cons (rwG h1 ?_)))
  exact ⟨by exact rwG (if_pos rfl) (rwG i1 rfl), by exact rwG (if_pos rfl) (rwG i2 rfl)⟩
theorem LineOk.at_ (h : LineOk l) : LineAt l (leadOf l) (bodyAt l) := by
 apply xEEEAAAq1L h; intro lead t1 t2 hl h1 h2; (try clear h)
 have hc : ∀ c ∈ t1 ++ t2, c < 128 /\ c ≠ 32 /\ c ≠ 9 /\ op [c] = true := fun c hc => (mem_append.mp hc).elim ((op_at h1).2 c) ((op_at h2).2 c)
 have := tw_app (p := isBl) (a := lead) (b := t1 ++ t2) (fun c hc => decide_eq_true (hl.b c hc)) (fun c hm => decide_eq_false fun q => by
  have := hc c hm
  lia)
 rw [append_assoc]
 unfold leadOf bodyAt
 refine rwG this.1 (rwG this.2 ?_)
 have q1 := (op_at h1).1
 have q2 := (op_at h2).1
 exact ⟨rfl, hl, by refine rwG length_append ?_; lia, hc, t1, t2, rfl, h1, h2⟩
theorem lstrip_line (h : LineAt l lead body) : Txt.lstripChars (st l) (ofString " \t") = st body := by
 unfold Txt.lstripChars
 have hp : (ofString " \t").cps.contains = isBl := by
  funext c
  have : (ofString " \t").cps = #[32, 9] := by decide +kernel
  rw [this]
  unfold isBl
  simp
 rw [hp, PyProof.Rows.stripBy_eq]
 have := tw_app (p := isBl) (a := lead) (b := body) (fun c hc => decide_eq_true (h.lead.b c hc)) (fun c hm => decide_eq_false fun q => by
  have := h.chars c hm
  lia)
 have e : (st l).cps.toList = l := by unfold st; simp
 unfold stripLo stripHi Builtin.Str.strSub
 simp only [if_true, Bool.false_eq_true, if_false]
 refine rwG e (rwG h.eq (rwG this.1 (rwG (Eq.symm h.eq) ?_)))
 show (⟨(st l).cps.extract lead.length (st l).length⟩ : Str) = ⟨body.toArray⟩
 congr 1
 rw [len_st]
 show l.toArray.extract lead.length l.length = _
 refine rwG List.extract_toArray ?_
 refine rwG h.eq ?_
 simp [List.extract]
theorem run_all : (leads.all fun l => decide (runOf l <= 6) && decide (0 <= lng (wsOf l)) && (List.range 7).all fun n => inStr (repStr (ofString " ") n) (st l) == decide (n <= runOf l)) = true := by decide +kernel
theorem run_at (h : Lead l) : runOf l <= 6 /\ 0 <= lng (wsOf l) /\ ∀ n : Nat, n < 7 -> inStr (repStr (ofString " ") n) (st l) = decide (n <= runOf l) := by
 have := lead_all run_all h
 rw [Bool.and_eq_true, Bool.and_eq_true, all_eq_true] at this
 exact ⟨of_decide_eq_true this.1.1, of_decide_eq_true this.1.2, fun n hn => beq_iff_eq.mp (this.2 n (mem_range.mpr hn))⟩
theorem run_two (ha : Lead a) (hb : Lead b) : runs2 a b <= 6 /\ ∀ n : Nat, n < 7 -> (inStr (repStr (ofString " ") n) (st a) || inStr (repStr (ofString " ") n) (st b)) = decide (n <= runs2 a b) := by
 refine xAA (run_at ha) fun a1 _ a2 => ?_
 refine xAA (run_at hb) fun b1 _ b2 => ?_
 unfold runs2
 refine ⟨by lia, fun n hn => ?_⟩
 rw [a2 n hn, b2 n hn, <- Bool.decide_or]
 exact decide_eq_decide.mpr (by lia)
theorem cut_len (h1 : 1 <= l.length) : (cutS l).length <= l.length := by
 unfold cutS
 have : ∀ (ms : List Nat) (bt : List Int × List Int), bt.2.length <= l.length -> (ms.foldl (stepC l) bt).2.length <= l.length := by
  intro ms
  induction ms with
  | nil => intro bt h; exact h
  | cons m ms ih =>
   intro bt h
   refine rwG foldl_cons ?_
   refine ih _ ?_
   unfold stepC
   split
   ·show ((partsC l m).map num).length <= _
    rw [length_map]
    exact parts_len l m h1
   ·exact h
 exact this _ _ (Nat.zero_le _)
theorem q_extI' {xs ys : List Int} (h : xs.length + ys.length <= 100000) : mutD "extend" (.list (xs.map .int)) [.list (ys.map .int)] = some (.list ((xs ++ ys).map .int)) := by
 rw [q_ext (by rw [length_map, length_map, sizeLine_eq]; lia), map_append]
theorem q_appI' (h : xs.length <= 100000) : mutD "append" (.list (xs.map .int)) [.int y] = some (.list ((xs ++ [y]).map .int)) := by
 rw [q_app (by rw [length_map, sizeLine_eq]; lia), map_append]
 rfl
theorem q_augC (h : a.length + b.length <= 100000) : augD .Add (.str (st a)) (.str (st b)) = some (.str (st (a ++ b))) := by
 rw [q_augS (by rw [len_st, len_st, sizeLine_eq]; lia), st_app]
theorem told_f {K : Fl -> Ro -> Prop} (h1 : ρ.lookup "done" = some (.v (.str (st done)))) (h2 : ρ.lookup "body" = some (.v (.str (st body)))) (h3 : ρ.lookup "row" = some (.own (.list (row.map .int)))) (h4 : ρ.lookup "number" = some (.v (.dict opKs opDs)))
  (hb : 1 <= body.length /\ body.length <= 6) (hc : ∀ c ∈ body, c < 128) (hd : done.length <= 900) (hr : row.length <= 50000)
  (h : ∀ d, K .next (("row", .own (.list ((row ++ cutS body ++ [if depthS (done ++ body) = 0 then 4 else 63]).map .int))) :: ("row", d) :: ("done", .v (.str (st (done ++ body)))) :: ρ)) :
  exsW (cx tb U1) c_told_f ρ K := by
 have hcl := cut_len hb.1
 unfold c_told_f
 (ktr_room; repeat (simp only [h1, h2, h3, h4]; ktr_room))
 refine ask_of (q_augC (by lia)) ?_
 refine ⟨body, rfl, hb.1, hb.2, fun c hm => by have := hc c hm; lia, ?_⟩
 dsimp only
 refine ask_of (q_extI' (by lia)) ?_
 ktr_room
 refine ⟨done ++ body, rfl, by refine rwG length_append ?_; lia, ?_⟩
 dsimp only
 refine ask_of q_eqI ?_
 refine ⟨fun e => ?_, fun e => ?_⟩
 ·refine ask_of (q_appI' (by refine rwG length_append ?_; lia)) ?_
  have := h (.own (.list ((row ++ cutS body).map .int)))
  rw [if_pos (by simpa using e)] at this
  exact this
 ·refine ask_of (q_appI' (by refine rwG length_append ?_; lia)) ?_
  have := h (.own (.list ((row ++ cutS body).map .int)))
  rw [if_neg (by simpa using e)] at this
  exact this
structure Lk (ρ : Ro) (stack : List (List Nat)) (row : List Int) (nags : List D) (done body : List Nat) (lines : List (List Nat)) (fits : Bool) : Prop where
 st : ρ.lookup "stack" = some (.own (.list (strsD stack)))
 rw_ : ρ.lookup "row" = some (.own (.list (row.map .int)))
 ng : ρ.lookup "nags" = some (.own (.list nags))
 dn : ρ.lookup "done" = some (.v (.str (Mine.st done)))
 bd : ρ.lookup "body" = some (.v (.str (Mine.st body)))
 nm : ρ.lookup "number" = some (.v (.dict opKs opDs))
 ln : ρ.lookup "lines" = some (.v (.list (strsD lines)))
 ft : ρ.lookup "fits" = some (.v (.bool fits))
theorem Lk.other {ρ stack row nags done body lines fits} (L : Lk ρ stack row nags done body lines fits) (x : String) (e : Ent) (h : x ∉ ["stack", "row", "nags", "done", "body", "number", "lines", "fits"]) : Lk ((x, e) :: ρ) stack row nags done body lines fits := by
 have ne : ∀ y ∈ ["stack", "row", "nags", "done", "body", "number", "lines", "fits"], (y == x) = false := fun y hy => beq_eq_false_iff_ne.mpr fun q => h (q ▸ hy)
 exact ⟨(look_ne (ne _ (by decide))).trans L.st, (look_ne (ne _ (by decide))).trans L.rw_, (look_ne (ne _ (by decide))).trans L.ng, (look_ne (ne _ (by decide))).trans L.dn, (look_ne (ne _ (by decide))).trans L.bd, (look_ne (ne _ (by decide))).trans L.nm, (look_ne (ne _ (by decide))).trans L.ln, (look_ne (ne _ (by decide))).trans L.ft⟩
theorem Lk.stack {ρ stack row nags done body lines fits} (L : Lk ρ stack row nags done body lines fits) (s' : List (List Nat)) : Lk (("stack", .own (.list (strsD s'))) :: ρ) s' row nags done body lines fits :=
 ⟨look_eq, (look_ne (by decide)).trans L.rw_, (look_ne (by decide)).trans L.ng, (look_ne (by decide)).trans L.dn, (look_ne (by decide)).trans L.bd, (look_ne (by decide)).trans L.nm, (look_ne (by decide)).trans L.ln, (look_ne (by decide)).trans L.ft⟩
theorem Lk.row {ρ stack row nags done body lines fits} (L : Lk ρ stack row nags done body lines fits) (r' : List Int) : Lk (("row", .own (.list (r'.map .int))) :: ρ) stack r' nags done body lines fits :=
 ⟨(look_ne (by decide)).trans L.st, look_eq, (look_ne (by decide)).trans L.ng, (look_ne (by decide)).trans L.dn, (look_ne (by decide)).trans L.bd, (look_ne (by decide)).trans L.nm, (look_ne (by decide)).trans L.ln, (look_ne (by decide)).trans L.ft⟩
theorem Lk.nags {ρ stack row nags done body lines fits} (L : Lk ρ stack row nags done body lines fits) (r' : List D) : Lk (("nags", .own (.list r')) :: ρ) stack row r' done body lines fits :=
 ⟨(look_ne (by decide)).trans L.st, (look_ne (by decide)).trans L.rw_, look_eq, (look_ne (by decide)).trans L.dn, (look_ne (by decide)).trans L.bd, (look_ne (by decide)).trans L.nm, (look_ne (by decide)).trans L.ln, (look_ne (by decide)).trans L.ft⟩
theorem Lk.fits {ρ stack row nags done body lines fits} (L : Lk ρ stack row nags done body lines fits) (r' : Bool) : Lk (("fits", .v (.bool r')) :: ρ) stack row nags done body lines r' :=
 ⟨(look_ne (by decide)).trans L.st, (look_ne (by decide)).trans L.rw_, (look_ne (by decide)).trans L.ng, (look_ne (by decide)).trans L.dn, (look_ne (by decide)).trans L.bd, (look_ne (by decide)).trans L.nm, (look_ne (by decide)).trans L.ln, look_eq⟩
theorem strsD_len (l : List (List Nat)) : (strsD l).length = l.length := by unfold strsD; rw [length_map]
theorem strsD_snoc (l : List (List Nat)) (x : List Nat) : strsD (l ++ [x]) = strsD l ++ [.str (Mine.st x)] := by unfold strsD; refine rwG map_append ?_; rfl
theorem told_g1 {stack row nags done body lines} {K : Fl -> Ro -> Prop} (L : Lk ρ stack row nags done body lines true) (hle : ρ.lookup "lead" = some (.v (.str (Mine.st lead)))) (hs : stack.length <= 900) (hr : row.length <= 50000)
  (h : ∀ ρ', Lk ρ' (stack ++ [lead]) (row ++ [5]) nags done body lines true -> K .next ρ') : exsW (cx tb U1) c_told_g1 ρ K := by
 have l1 := L.rw_
 have l2 := L.st
 unfold c_told_g1
 (ktr_room; repeat (simp only [l1, l2, hle]; ktr_room))
 refine ask_of (q_appI' (by lia)) ?_
 refine ask_of (q_app (by rw [strsD_len, sizeLine_eq]; lia)) ?_
 rw [<- strsD_snoc]
 exact h _ ((L.row _).stack _)
theorem rep_six (n : Nat) : (List.replicate n [D.int 6]).flatten = (List.replicate n (6 : Int)).map .int := by
 induction n with
 | zero => rfl
 | succ n ih => refine rwG replicate_succ (rwG replicate_succ (rwG flatten_cons (rwG ih ?_))); rfl
theorem strsD_flat (l : List (List Nat)) : flatAll (strsD l) = true := by
 unfold flatAll strsD
 rw [List.all_map, all_eq_true]
 intro _ _; rfl
theorem take_strs {n : Nat} (hn : n <= l.length) (hl : l.length <= 900) : sliceD (.list (strsD l)) none (some (.int (n : Int))) none = some (.list (strsD (l.take n))) := by
 rw [q_sliceL (lo := none) (hi := some (n : Int)) rfl rfl (by rw [strsD_len, sizeLine_eq]; lia)]
 simp only [Option.elim_some, Option.elim_none, clipAt_nat, List.drop_zero, Nat.sub_zero]
 rw [strsD_len, Nat.min_eq_left hn]
 unfold strsD
 exact rwG List.map_take rfl
theorem told_g2 {stack row nags done body lines} {K : Fl -> Ro -> Prop} (L : Lk ρ stack row nags done body lines true) (ha : ρ.lookup "above" = some (.v (.list A))) (hb : ρ.lookup "base" = some (.v (.int ((stack.length - A.length - 1 : Nat) : Int)))) (hs : stack.length <= 900) (hal : A.length < stack.length) (hr : row.length <= 50000)
  (h : ∀ ρ', Lk ρ' (stack.take (stack.length - A.length)) (row ++ List.replicate A.length 6) nags done body lines true -> K .next ρ') : exsW (cx tb U1) c_told_g2 ρ K := by
 have l1 := L.rw_
 have l2 := L.st
 unfold c_told_g2
 (ktr_room; repeat (simp only [l1, l2, ha, hb]; ktr_room))
 refine ⟨by refine rwG sizeLine_eq ?_; simp, ?_⟩
 refine ask_of (q_lenL (by refine rwG sizeLine_eq ?_; lia)) ?_
 refine ask_of (q_mulL (by simp only [length_singleton]; lia) (smallN (by lia))) ?_
 rw [Int.toNat_natCast, rep_six]
 refine ask_of (q_extI' (by rw [length_replicate]; lia)) ?_
 refine rwG (show ((stack.length - A.length - 1 : Nat) : Int) + 1 = ((stack.length - A.length : Nat) : Int) by lia) ?_
 refine ask_of (take_strs (by lia) hs) ?_
 exact ⟨strsD_flat _, h _ ((L.row _).stack _)⟩
theorem item_at {i : Nat} (h : xs[i]? = some d) (hi : i <= 1000) : itemD (.list xs) (.int (i : Int)) = some d := by
 have hlt : i < xs.length := (List.getElem?_eq_some_iff.mp h).1
 show (if smallB (i : Int) = true then atL xs i else none) = _
 refine rwG (if_pos (smallN hi)) ?_
 unfold atL
 refine rwG (seqIndex_of (by lia) (by lia)) ?_
 simpa using h
theorem item_m1 (h : xs[xs.length - 1]? = some d) : itemD (.list xs) (.int (-1)) = some d := by
 have hlt : xs.length - 1 < xs.length := (List.getElem?_eq_some_iff.mp h).1
 show (if smallB (-1) = true then atL xs (-1) else none) = _
 refine rwG (if_pos (by decide)) ?_
 unfold atL
 refine rwG (PySem.seqIndex_neg (by decide) (by lia)) ?_
 refine rwG (show ((-1 : Int) + (xs.length : Int)).toNat = xs.length - 1 by lia) ?_
 simpa using h
noncomputable def colD (l : List Nat) : D := .list ((cols l).map .int)
theorem cols_len (l : List Nat) : (cols l).length = 7 := rfl
theorem getD_some {l : List (List Nat)} (h : i < l.length) : l[i]? = some (l.getD i []) := by
 refine rwG (List.getElem?_eq_getElem h) ?_
 simp [h]
theorem item_strsN {l : List (List Nat)} {i : Nat} (h : i < l.length) (hi : i <= 1000) : itemD (.list (strsD l)) (.int (i : Int)) = some (.str (st (l.getD i []))) :=
 item_at (by unfold strsD; refine rwG (List.getElem?_map) (rwG (getD_some h) ?_); rfl) hi
theorem item_strsL {l : List (List Nat)} (h : 0 < l.length) : itemD (.list (strsD l)) (.int (-1)) = some (.str (st (l.getD (l.length - 1) []))) :=
 item_m1 (by rw [strsD_len]; unfold strsD; refine rwG (List.getElem?_map) (rwG (getD_some (by lia)) ?_); rfl)
theorem item_colsN {l : List (List Nat)} {i : Nat} (h : i < l.length) (hi : i <= 1000) : itemD (.list (l.map colD)) (.int (i : Int)) = some (colD (l.getD i [])) :=
 item_at (by refine rwG (List.getElem?_map) (rwG (getD_some h) ?_); rfl) hi
theorem item_colsL {l : List (List Nat)} (h : 0 < l.length) : itemD (.list (l.map colD)) (.int (-1)) = some (colD (l.getD (l.length - 1) [])) :=
 item_m1 (by rw [length_map, List.getElem?_map, getD_some (by lia)]; rfl)
theorem comp_hits {f : Int -> Int -> Bool} {op : CmpOp} (hf : ∀ a b : Int, cmpD op (.int a) (.int b) = some (f a b)) (h : k ((((cols a).zip (cols b)).map fun p => f p.1 p.2).map .bool)) :
  compL (fun (_ : D × D) (k : Bool -> Prop) => k true) (fun d k => ask (cmpD op d.1 d.2) fun q => k (.bool q)) (((cols a).map D.int).zip ((cols b).map D.int)) [] k := by
 refine rwG zip_map ?_
 refine compL_m (p := fun _ => true) (g := fun p => .bool (f p.1 p.2)) _ _ (fun p _ k hk => hk) (fun p _ _ k hk => ?_) ?_
 ·show ask (cmpD op (.int p.1) (.int p.2)) _
  rw [hf, ask_some]
  exact hk
 ·rw [nil_append, filter_eq_self.mpr (fun _ _ => rfl)]
  rw [map_map] at h
  exact h
theorem words_len (run : Nat) (hits : List Bool) (h : run <= 6) : (wordsS run hits).length <= 210000 := by
 have hsl : (saidS run hits).length <= 7 := by
  unfold saidS
  rw [length_map]
  have := length_filter_le (fun i => hits.getD i false) (List.range (run + 1))
  rw [length_range] at this
  lia
 obtain ⟨_, j2⟩ := join_small (sep := ofString ", ") (texts := saidS run hits) (by lia) (fun u hu => by
  apply xEAq2R (mem_map.mp hu); intro i _
  show 1 <= 1000
  lia) (by decide)
 unfold wordsS
 rw [PySem.Str.length_append, PySem.Str.length_append]
 have e1 : (ofString "at tab size").length = 11 := by decide
 have e2 : (if (saidS run hits).length > 1 then ofString "s " else ofString " ").length <= 2 := by split <;> decide
 lia
theorem told_g3 {ρ : Ro} {stack row nags done body lines} {k b : Nat} {K : Fl -> Ro -> Prop} (L : Lk ρ stack row nags done body lines true) (hle : ρ.lookup "lead" = some (.v (.str (Mine.st lead))))
  (hm : ρ.lookup "mine" = some (.v (colD lead))) (hw : ρ.lookup "wide" = some (.v (.list (stack.map colD)))) (hb : ρ.lookup "base" = some (.v (.int (b : Int)))) (hk : ρ.lookup "k" = some (.v (.int (k : Int))))
  (hld : Lead lead) (hst : ∀ s ∈ stack, Lead s) (h0 : 0 < stack.length) (hbl : b < stack.length) (hs : stack.length <= 900) (hn : nags.length <= 900) (hl : lines[k]? = some l) (hk9 : k <= 900)
  (h : ∀ ρ', Lk ρ' stack row (nags ++ [nagD k (nagW (stack.getD (stack.length - 1) []) (stack.getD b []) lead) l]) done body lines false -> K .next ρ') : exsW (cx tb U1) c_told_g3 ρ K := by
 have l1 := L.rw_
 have l2 := L.st
 have l3 := L.ng
 have l4 := L.ln
 have mem : ∀ i, i < stack.length -> Lead (stack.getD i []) := fun i hi => hst _ (List.mem_of_getElem? (getD_some hi))
 have ht := run_two (mem _ (show stack.length - 1 < stack.length by lia)) hld
 have hbs := run_two (mem _ hbl) hld
 have i1 := item_colsL h0
 have i2 := item_colsN hbl (show b <= 1000 by lia)
 unfold colD at i1 i2 hm hw
 unfold c_told_g3
 (ktr_room; repeat (simp only [l1, l2, l3, l4, hle, hm, hw, hb, hk]; ktr_room))
 rw [item_strsL h0, ask_some, i1, ask_some]
 refine ⟨by rw [length_map, cols_len, sizeLine_eq]; lia, by rw [length_map, cols_len, sizeLine_eq]; lia, ?_⟩
 refine comp_hits (f := fun a b => decide (a >= b)) (fun a b => q_geI) ?_
 refine ⟨_, _, runs2 (stack.getD (stack.length - 1) []) lead, hitsG (stack.getD (stack.length - 1) []) lead, rfl, ht.1, ht.2, rfl, ?_⟩
 have w1 := words_len _ (hitsG (stack.getD (stack.length - 1) []) lead) ht.1
 have w2 := words_len _ (hitsN (stack.getD b []) lead) hbs.1
 dsimp only
 have e1 : (ofString "not greater ").length = 12 := by decide
 have e2 : (ofString "; not equal ").length = 12 := by decide
 rw [q_addS (by rw [e1, sizeLine_eq]; lia), ask_some, item_strsN hbl (by lia), ask_some, i2, ask_some]
 refine ⟨by rw [length_map, cols_len, sizeLine_eq]; lia, by rw [length_map, cols_len, sizeLine_eq]; lia, ?_⟩
 refine comp_hits (f := fun a b => a != b) (fun a b => q_neI) ?_
 refine ⟨_, _, runs2 (stack.getD b []) lead, hitsN (stack.getD b []) lead, rfl, hbs.1, hbs.2, rfl, ?_⟩
 dsimp only
 rw [q_addS (by rw [e2, sizeLine_eq]; lia), ask_some, q_augS (by rw [PySem.Str.length_append, PySem.Str.length_append, e1, e2, sizeLine_eq]; lia), ask_some]
 refine ask_of (item_at (d := .str (st l)) (by unfold strsD; refine rwG (List.getElem?_map) (rwG hl ?_); rfl) (by lia)) ?_
 refine ⟨by refine rwG sizeLine_eq ?_; simp, ?_⟩
 refine ask_of (q_app (by refine rwG sizeLine_eq ?_; lia)) ?_
 exact h _ ((((L.other "words" (.v (.str (ofString "not greater " ++ wordsS (runs2 (stack.getD (stack.length - 1) []) lead) (hitsG (stack.getD (stack.length - 1) []) lead)))) (by decide)).other "words" (.v (.str (nagW (stack.getD (stack.length - 1) []) (stack.getD b []) lead))) (by decide)).nags (nags ++ [nagD k (nagW (stack.getD (stack.length - 1) []) (stack.getD b []) lead) l])).fits false)
theorem cols_nil : cols [] = [0, 0, 0, 0, 0, 0, 0] := by decide
theorem col_all : (leads.all fun l => (cols l).all fun x => decide (0 <= x)) = true := by decide +kernel
theorem under_nil (h : Lead l) : under (cols l) (cols []) = false := by
 have := lead_all col_all h
 rw [all_eq_true] at this
 have h1 := of_decide_eq_true (this (col 1 l) (by simp [cols]))
 refine rwG cols_nil ?_
 unfold under cols
 simp only [zip_cons_cons, all_cons]
 rw [decide_eq_false (show ¬ col 1 l < 0 by lia), Bool.false_and]
theorem abv_lt {stack : List (List Nat)} (hb : stack.head? = some []) (hl : Lead lead) : (stack.filter fun s => under (cols lead) (cols s)).length < stack.length := by
 cases stack with
 | nil => injection hb
 | cons s r =>
  obtain rfl := osi hb
  rw [filter_cons, if_neg (by refine rwG (under_nil hl) ?_; decide), length_cons]
  have := length_filter_le (fun s => under (cols lead) (cols s)) r
  lia
theorem q_eqC : cmpD .Eq (colD a) (colD b) = some (decide (cols a = cols b)) := by
 show eqD (.list ((cols a).map .int)) (.list ((cols b).map .int)) = _
 exact eqD_ints _ _
theorem told_g {ρ : Ro} {lead : List Nat} {k : Nat} {l : List Nat} {K : Fl -> Ro -> Prop} (L : Lk ρ S.stack S.row S.nags S.done body lines true) (hle : ρ.lookup "lead" = some (.v (.str (Mine.st lead)))) (hk : ρ.lookup "k" = some (.v (.int (k : Int))))
  (hld : Lead lead) (hst : ∀ s ∈ S.stack, Lead s) (hbot : S.stack.head? = some []) (hs : S.stack.length <= 900) (hr : S.row.length <= 50000) (hn : S.nags.length <= 900) (hl : lines[k]? = some l) (hk9 : k <= 900)
  (h1 : under (cols (topL S)) (cols lead) = true -> ∀ ρ', Lk ρ' (S.stack ++ [lead]) (S.row ++ [5]) S.nags S.done body lines true -> K .next ρ')
  (h2 : under (cols (topL S)) (cols lead) = false -> cols (baseL S lead) = cols lead -> ∀ ρ', Lk ρ' (S.stack.take (S.stack.length - abv S lead)) (S.row ++ List.replicate (abv S lead) 6) S.nags S.done body lines true -> K .next ρ')
  (h3 : under (cols (topL S)) (cols lead) = false -> cols (baseL S lead) ≠ cols lead -> ∀ ρ', Lk ρ' S.stack S.row (S.nags ++ [nagD k (nagW (topL S) (baseL S lead) lead) l]) S.done body lines false -> K .next ρ') :
  exsW (cx tb U1) c_told_g ρ K := by
 have l2 := L.st
 have h0 : 0 < S.stack.length := by
  cases q : S.stack with
  | nil => rw [q] at hbot; injection hbot
  | cons _ _ => simp
 have hab : abv S lead < S.stack.length := abv_lt hbot hld
 unfold c_told_g
 (ktr_room; repeat (simp only [l2, hle]; ktr_room))
 refine ⟨lead, rfl, by rw [strsD_len, sizeLine_eq]; lia, ?_⟩
 unfold strsD
 refine compL_m (p := fun _ => true) (g := colD) _ _ (fun s _ k hk => hk) (fun s _ _ k hk => ⟨s, rfl, hk⟩) ?_
 rw [nil_append, filter_eq_self.mpr (fun _ _ => rfl)]
 refine ⟨by rw [length_map, sizeLine_eq]; lia, ?_⟩
 refine compL_m (p := fun s => under (cols lead) (cols s)) (g := colD) _ _ (fun s _ k hk => ⟨cols lead, cols s, rfl, by rw [cols_len]; lia, by rw [cols_len]; lia, tst hk⟩) (fun s _ _ k hk => hk) ?_
 rw [nil_append]
 have hA : ((S.stack.filter fun s => under (cols lead) (cols s)).map colD).length = abv S lead := by rw [length_map]; rfl
 generalize ((S.stack.filter fun s => under (cols lead) (cols s)).map colD) = A at hA ⊢
 rw [q_lenL (by rw [length_map, sizeLine_eq]; lia), ask_some, q_lenL (by refine rwG sizeLine_eq ?_; lia), ask_some, length_map, hA]
 ktr_room
 refine rwG (show (S.stack.length : Int) - (abv S lead : Int) - 1 = ((S.stack.length - abv S lead - 1 : Nat) : Int) by lia) ?_
 refine rwG (item_colsL h0) (rwG ask_some (rwG (item_colsN (show S.stack.length - abv S lead - 1 < S.stack.length by lia) (by lia)) (rwG ask_some ?_)))
 refine ⟨cols (topL S), cols lead, rfl, by rw [cols_len]; lia, by rw [cols_len]; lia, ?_⟩
 have L' : Lk (("base", .v (.int ((S.stack.length - abv S lead - 1 : Nat) : Int))) :: ("above", .v (.list A)) :: ("wide", .v (.list (S.stack.map colD))) :: ("mine", .v (colD lead)) :: ρ) S.stack S.row S.nags S.done body lines true :=
  (((L.other _ _ (by decide)).other _ _ (by decide)).other _ _ (by decide)).other _ _ (by decide)
 refine ⟨fun e => ?_, fun e => ?_⟩
 ·refine told_g1 L' ((look_ne (by decide)).trans ((look_ne (by decide)).trans ((look_ne (by decide)).trans ((look_ne (by decide)).trans hle)))) hs hr fun ρ' h' => h1 e ρ' h'
 ·show ask (cmpD .Eq (colD (baseL S lead)) (colD lead)) _
  refine rwG q_eqC (rwG ask_some ?_)
  refine ⟨fun e2 => ?_, fun e2 => ?_⟩
  ·refine told_g2 L' ((look_ne (by decide)).trans look_eq) (by rw [look_eq, hA]) hs (by rw [hA]; exact hab) hr fun ρ' h' => h2 e (of_decide_eq_true e2) ρ' ?_
   rw [hA] at h'
   exact h'
  ·refine told_g3 (k := k) (l := l) (b := S.stack.length - abv S lead - 1) L' ((look_ne (by decide)).trans ((look_ne (by decide)).trans ((look_ne (by decide)).trans ((look_ne (by decide)).trans hle)))) ((look_ne (by decide)).trans ((look_ne (by decide)).trans ((look_ne (by decide)).trans look_eq)))
    ((look_ne (by decide)).trans ((look_ne (by decide)).trans look_eq)) look_eq ((look_ne (by decide)).trans ((look_ne (by decide)).trans ((look_ne (by decide)).trans ((look_ne (by decide)).trans hk)))) hld hst h0 (by lia) hs hn hl hk9 fun ρ' h' => h3 e (of_decide_eq_false e2) ρ' h'
noncomputable def tsR (S : TS) (lines : List (List Nat)) : Ro := [("done", .v (.str (st S.done))), ("lines", .v (.list (strsD lines))), ("nags", .own (.list S.nags)), ("number", .v (.dict opKs opDs)), ("row", .own (.list (S.row.map .int))), ("stack", .own (.list (strsD S.stack)))]
theorem Lk.keep {ρ stack row nags done body lines fits} (L : Lk ρ stack row nags done body lines fits) : keepR ["done", "lines", "nags", "number", "row", "stack"] ρ = tsR ⟨stack, row, nags, done⟩ lines := by
 unfold keepR
 simp only [filterMap_cons, filterMap_nil, L.dn, L.ln, L.ng, L.nm, L.rw_, L.st, Option.map_some]
 rfl
theorem q_lstrip (h : LineAt l lead body) (hl : l.length <= 900) : fnBu "str.lstrip" [.str (st l), .str (ofString " \t")] = some (.str (st body)) := by
 show (if (st l).length <= sizeLine then some (D.str (Txt.lstripChars (st l) (ofString " \t"))) else none) = _
 rw [if_pos (by rw [len_st, sizeLine_eq]; lia), lstrip_line h]
theorem fin_ok {stack : List (List Nat)} (T : TOk n S) (hn : n <= 50) (h : LineAt l lead body) (h1 : ∀ s ∈ stack, Lead s) (h2 : stack.head? = some []) (h3 : stack.length <= n + 2) (h4 : row.length <= S.row.length + n + 1) : TOk (n + 1) (finT S stack row body) := by
 have hb := h.len
 have hc := cut_len (l := body) (by lia)
 refine ⟨h1, h2, h3, ?_, Nat.le_succ_of_le T.nlen, ?_⟩
 ·show (row ++ cutS body ++ [_]).length <= _
  refine rwG length_append (rwG length_append (rwG length_singleton ?_))
  have := T.rlen
  lia
 ·show (S.done ++ body).length <= _
  refine rwG length_append ?_
  have := T.dlen
  lia
theorem head_take {l : List α} (h : l.head? = some a) (hn : 0 < n) : (l.take n).head? = some a := by
 cases l with
 | nil => injection h
 | cons b r =>
  cases n with
  | zero => lia
  | succ n => refine rwG List.take_succ_cons ?_; exact h
theorem head_app {l r : List α} (h : l.head? = some a) : (l ++ r).head? = some a := by
 cases l with
 | nil => injection h
 | cons b t => exact h
theorem body_told {lines : List (List Nat)} {k n : Nat} {K : Fl -> Ro -> Prop} (T : TOk n S) (hn : n <= 50) (hl : lines[k]? = some l) (hk : k <= 900) (hL : LineOk l)
  (h : TOk (n + 1) (stepT S k l) -> ∀ ρ, keepR ["done", "lines", "nags", "number", "row", "stack"] ρ = tsR (stepT S k l) lines -> K .next ρ) :
  exsW (cx tb U1) c_told_b2 (("k", .v (.int (k : Int))) :: tsR S lines) K := by
 have hA := hL.at_
 have hb := hA.len
 have hll : l.length <= 12 := by
  have := hA.lead.len
  have e := congrArg List.length hA.eq
  rw [length_append] at e
  lia
 have hle : leadOf l = l.take (leadOf l).length := by
  have e : (leadOf l ++ bodyAt l).take (leadOf l).length = leadOf l := List.take_left' rfl
  rw [<- hA.eq] at e
  exact e.symm
 have hit : itemD (.list (strsD lines)) (.int (k : Int)) = some (.str (st l)) := item_at (by unfold strsD; refine rwG (List.getElem?_map) (rwG hl ?_); rfl) (by lia)
 have r1 := T.rlen
 have r2 := T.slen
 have r3 := T.nlen
 have r4 := T.dlen
 have step : stepT S k l = stepT S k l := rfl
 unfold tsR
 unfold c_told_b2
 ktr_room
 refine rwG hit (rwG ask_some ?_)
 ktr_room
 rw [q_lstrip hA (by lia), ask_some, q_lenS (by rw [len_st, sizeLine_eq]; lia), ask_some, q_lenS (by rw [len_st, sizeLine_eq]; lia), ask_some, len_st, len_st]
 ktr_room
 have hsub : (l.length : Int) - ((bodyAt l).length : Int) = ((leadOf l).length : Int) := by
  have e := congrArg List.length hA.eq
  rw [length_append] at e
  lia
 refine rwG hsub ?_
 refine ask_of (q_sliceS (lo := none) (hi := some ((leadOf l).length : Int)) rfl rfl (by refine rwG sizeLine_eq ?_; lia)) ?_
 have hlen : (leadOf l).length <= l.length := by
  have e := congrArg List.length hA.eq
  rw [length_append] at e
  lia
 simp only [Option.elim_some, Option.elim_none, clipAt_nat, List.drop_zero, Nat.sub_zero]
 refine rwG (Nat.min_eq_left hlen) (rwG (Eq.symm hle) ?_)
 refine ⟨S.done, rfl, by lia, ?_⟩
 dsimp only
 refine ask_of q_eqI ?_
 have L0 : Lk (("fits", .v (.bool true)) :: ("lead", .v (.str (st (leadOf l)))) :: ("body", .v (.str (st (bodyAt l)))) :: ("k", .v (.int (k : Int))) :: tsR S lines) S.stack S.row S.nags S.done (bodyAt l) lines true := ⟨rfl, rfl, rfl, rfl, rfl, rfl, rfl, rfl⟩
 have hfin : ∀ (K' : Fl -> Ro -> Prop), (∀ ρ, K .next ρ -> K' .next ρ) -> ∀ (stack : List (List Nat)) (row : List Int) (ρ : Ro), Lk ρ stack row S.nags S.done (bodyAt l) lines true -> row.length <= 50000 -> stepT S k l = finT S stack row (bodyAt l) -> TOk (n + 1) (finT S stack row (bodyAt l)) -> exsW (cx tb U1) c_told_f ρ K' := fun K' hK' stack row ρ L hr e ok => by
  refine told_f L.dn L.bd L.rw_ L.nm (by lia) (fun c hc => (hA.chars c hc).1) (by lia) hr fun d => ?_
  rw [e] at h
  refine hK' _ (h ok _ ?_)
  unfold keepR
  simp only [filterMap_cons, filterMap_nil, lookup_cons, String.reduceBEq, beq_self_eq_true, L.ln, L.ng, L.nm, L.st, Option.map_some]
  rfl
 refine ⟨fun e0 => ?_, fun e0 => ⟨fun _ => ?_, fun q => nomatch q⟩⟩
 ·have e0 : depthS S.done = 0 := by simpa using e0
  have hab : abv S (leadOf l) < S.stack.length := abv_lt T.bot hA.lead
  refine told_g (k := k) (l := l) L0 rfl rfl hA.lead T.leads T.bot (by lia) (by lia) (by lia) hl hk (fun e1 ρ' L' => ?_) (fun e1 e2 ρ' L' => ?_) (fun e1 e2 ρ' L' => ?_)
  ·simp only [L'.ft]
   refine ⟨fun _ => hfin _ (fun ρ q => q) _ _ ρ' L' (by refine rwG length_append (rwG length_singleton ?_); lia) ?_ ?_, fun q => nomatch q⟩
   ·unfold stepT
    exact rwG (if_pos e0) (rwG (if_pos e1) rfl)
   ·refine fin_ok T hn hA (fun s hs => ?_) (head_app T.bot) (by refine rwG length_append (rwG length_singleton ?_); lia) (by refine rwG length_append (rwG length_singleton ?_); lia)
    rcases mem_append.mp hs with hs | hs
    ·exact T.leads s hs
    ·refine rwG (mem_singleton.mp hs) ?_; exact hA.lead
  ·simp only [L'.ft]
   refine ⟨fun _ => hfin _ (fun ρ q => q) _ _ ρ' L' (by refine rwG length_append (rwG length_replicate ?_); lia) ?_ ?_, fun q => nomatch q⟩
   ·unfold stepT
    rw [if_pos e0, if_neg (by refine rwG e1 ?_; decide), if_pos e2]
   ·exact fin_ok T hn hA (fun s hs => T.leads s (mem_of_mem_take hs)) (head_take T.bot (by lia)) (by refine rwG length_take ?_; lia) (by refine rwG length_append (rwG length_replicate ?_); lia)
  ·simp only [L'.ft]
   refine ⟨fun q => (nomatch q), fun _ => ?_⟩
   have e : stepT S k l = ⟨S.stack, S.row, S.nags ++ [nagD k (nagW (topL S) (baseL S (leadOf l)) (leadOf l)) l], S.done⟩ := by
    unfold stepT
    rw [if_pos e0, if_neg (by refine rwG e1 ?_; decide), if_neg e2]
   rw [e] at h
   refine h ⟨T.leads, T.bot, by show S.stack.length <= _; lia, by show S.row.length <= _; lia, by show (S.nags ++ [_]).length <= _; refine rwG length_append (rwG length_singleton ?_); lia, by show S.done.length <= _; lia⟩ _ L'.keep
 ·have e0 : ¬ depthS S.done = 0 := by simpa using e0
  refine hfin _ (fun ρ q => q) _ _ _ L0 (by lia) ?_ ?_
  ·unfold stepT
   exact rwG (if_neg e0) rfl
  ·exact fin_ok T hn hA T.leads T.bot (by lia) (by lia)
theorem loop_told {lines : List (List Nat)} {K : Fl -> Ro -> Prop} (hL : ∀ l ∈ lines, LineOk l) (hlen : lines.length <= 900) : ∀ (ks : List Nat) (n : Nat) (S : TS), TOk n S -> n + ks.length <= 50 -> (∀ k ∈ ks, k < lines.length) ->
  (TOk (n + ks.length) (runT lines ks S) -> K .next (tsR (runT lines ks S) lines)) ->
  forL (fun d ρ' => exsW (cx tb U1) c_told_b2 (("k", .v d) :: ρ')) ["done", "lines", "nags", "number", "row", "stack"] (ks.map fun (k : Nat) => D.int (k : Int)) (tsR S lines) K
 | [], n, S, T, _, _, h => h T
 | k :: ks, n, S, T, hn, hk, h => by
  refine rwG map_cons ?_
  unfold forL
  rw [length_cons] at hn
  have hlt := hk k mem_cons_self
  refine body_told T (by lia) (getD_some hlt) (by lia) (hL _ (List.mem_of_getElem? (getD_some hlt))) fun T' ρ hρ => ?_
  show forL _ _ _ (keepR _ ρ) K
  refine rwG hρ ?_
  refine loop_told hL hlen ks (n + 1) _ T' (by lia) (fun j hj => hk j (mem_cons_of_mem _ hj)) fun T'' => h ?_
  refine rwG length_cons (rwG (show n + (ks.length + 1) = n + 1 + ks.length by lia) ?_)
  exact T''
noncomputable def nums (n : Nat) : List D := (List.range n).map fun (i : Nat) => .int (7 + (i : Int))
theorem ops_nodup : ops.Nodup := by decide +kernel
theorem ops_nums : ops.map num = (List.range 48).map fun (i : Nat) => 7 + (i : Int) := by decide +kernel
theorem opDs_nums : opDs = nums 48 := by
 have : opDs = (ops.map num).map .int := by unfold opDs; refine rwG map_map ?_; rfl
 refine rwG this (rwG ops_nums (rwG map_map ?_))
 rfl
theorem st_nodup {l : List (List Nat)} (h : l.Nodup) : (l.map st).Nodup := by
 induction l with
 | nil => exact List.nodup_nil
 | cons x l ih =>
  rw [nodup_cons] at h
  rw [map_cons, nodup_cons]
  refine ⟨fun q => ?_, ih h.2⟩
  refine xEA (mem_map.mp q) fun y hy e => ?_
  rw [st_inj e] at hy
  exact h.1 hy
theorem q_lenD (h : ks.length <= 1000) (h2 : ks.Nodup) : lenD (.dict ks ds) = some (.int ks.length) := if_pos ⟨by refine rwG sizeLine_eq ?_; lia, h2⟩
theorem q_setD (h : ks.length <= 1000) (h2 : ks.Nodup) (h3 : k ∉ ks) : setID (.dict ks ds) (.str k) e = some (.dict (ks ++ [k]) (ds ++ [e])) := if_pos ⟨h2, h3, by refine rwG sizeLine_eq ?_; lia⟩
theorem nums_snoc (n : Nat) : nums (n + 1) = nums n ++ [.int (7 + (n : Int))] := by unfold nums; refine rwG List.range_succ (rwG map_append ?_); rfl
theorem body_number {K : Fl -> Ro -> Prop} (h : pre.length <= 900) (h2 : (pre ++ [x]).Nodup)
  (hK : ∀ d, K .next (("number", .own (.dict ((pre ++ [x]).map st) (nums (pre.length + 1)))) :: ("text", d) :: [("lines", .v lines), ("number", .own (.dict (pre.map st) (nums pre.length)))])) :
  exsW (cx tb U1) c_told_b1 (("text", .v (.str (st x))) :: [("lines", .v lines), ("number", .own (.dict (pre.map st) (nums pre.length)))]) K := by
 have h3 := st_nodup h2
 rw [map_append] at h3
 have hn : (pre.map st).Nodup := (List.nodup_append.mp h3).1
 have hx : st x ∉ pre.map st := fun q => (List.nodup_append.mp h3).2.2 _ q _ (mem_singleton.mpr rfl) rfl
 unfold c_told_b1
 ktr_room
 refine ask_of (q_lenD (by rw [length_map]; lia) hn) ?_
 rw [length_map]
 ktr_room
 refine ask_of (q_setD (by rw [length_map]; lia) hn hx) ?_
 have := hK (.v (.str (st x)))
 rw [nums_snoc, map_append] at this
 exact this
theorem loop_number {K : Fl -> Ro -> Prop} : ∀ (r pre : List (List Nat)), (pre ++ r).length <= 900 -> (pre ++ r).Nodup -> K .next [("lines", .v lines), ("number", .own (.dict ((pre ++ r).map st) (nums (pre ++ r).length)))] ->
  forL (fun d ρ' => exsW (cx tb U1) c_told_b1 (("text", .v d) :: ρ')) ["lines", "number"] (r.map fun l => D.str (st l)) [("lines", .v lines), ("number", .own (.dict (pre.map st) (nums pre.length)))] K
 | [], pre, _, _, h => by
  rw [append_nil] at h
  exact h
 | x :: r, pre, h1, h2, h => by
  refine rwG map_cons ?_
  unfold forL
  have e : pre ++ x :: r = (pre ++ [x]) ++ r := by simp
  rw [e] at h1 h2 h
  have hl : pre.length <= 900 := by
   rw [length_append, length_append] at h1
   lia
  refine body_number hl (List.nodup_append.mp h2).1 fun d => ?_
  have := loop_number r (pre ++ [x]) h1 h2 h
  rw [length_append, length_singleton] at this
  exact this
theorem loop_number0 {K : Fl -> Ro -> Prop} {os : List (List Nat)} (hL : os.map (fun l => D.str (st l)) = L) (hl : os.length <= 900) (hn : os.Nodup) (e1 : ks = os.map st) (e2 : ds = nums os.length) (h : K .next [("lines", .v lines), ("number", .own (.dict ks ds))]) :
  forL (fun d ρ' => exsW (cx tb U1) c_told_b1 (("text", .v d) :: ρ')) ["lines", "number"] L [("lines", .v lines), ("number", .own (.dict [] []))] K := by
 subst e1 e2 hL
 exact loop_number os [] hl hn h
theorem ops_len : ops.length = 48 := by decide +kernel
theorem ops_lt : ops.length <= 900 := by refine rwG ops_len ?_; decide
theorem opDs_len : opDs = nums ops.length := by refine rwG ops_len ?_; exact opDs_nums
theorem opKs_eq : opKs = ops.map st := rfl
theorem s_texts (h : k (.list (ops.map fun l => D.str (st l)))) : S_texts [] k := ⟨rfl, h⟩
theorem w_told {lines : List (List Nat)} {K : D -> Prop} (hL : ∀ l ∈ lines, LineOk l) (hlen : lines.length <= 50) (h : TOk lines.length (toldT lines) -> K (outT (toldT lines))) :
  exsW (cx tb U1) c_told (["lines"].zip ([D.list (strsD lines)].map Ent.v)) (fun fl _ => retK K fl) := by
 unfold c_told
 ktr_room
 refine s_texts ?_
 dsimp only
 generalize hLL : List.map (fun l => D.str (st l)) ops = LL
 refine loop_number0 (os := ops) (ks := opKs) (ds := opDs) hLL ops_lt ops_nodup opKs_eq opDs_len ?_
 ktr_room
 refine ⟨by refine rwG sizeLine_eq ?_; simp, rfl, by refine rwG sizeLine_eq ?_; simp, rfl, by refine rwG sizeLine_eq ?_; simp, rfl, ?_⟩
 refine ask_of (q_lenL (by rw [strsD_len, sizeLine_eq]; lia)) ?_
 rw [strsD_len]
 ktr_room
 refine ⟨⟨by lia, by lia⟩, ?_⟩
 rw [intL_zero, Int.toNat_natCast, show ofString "" = st [] from by decide +kernel]
 refine loop_told hL (by lia) (List.range lines.length) 0 ⟨[[]], [], [], []⟩ ⟨fun l hl => ?_, rfl, by decide, by decide, by decide, by decide⟩ (by refine rwG length_range ?_; lia) (fun k hk => mem_range.mp hk) fun T => ?_
 ·refine rwG (mem_singleton.mp hl) ?_
  exact ⟨(fun c hc => nomatch hc), by decide⟩
 ·rw [length_range, Nat.zero_add] at T
  have T : TOk lines.length (toldT lines) := T
  have hk := h T
  generalize hS : runT lines (List.range lines.length) ⟨[[]], [], [], []⟩ = S
  have hS' : toldT lines = S := hS
  rw [hS'] at hk T
  have t1 := T.slen
  have t2 := T.rlen
  have h0 : 0 < S.stack.length := by
   have := T.bot
   cases q : S.stack with
   | nil => rw [q] at this; injection this
   | cons _ _ => simp
  unfold tsR
  ktr_room
  rw [q_lenL (by rw [strsD_len, sizeLine_eq]; lia), ask_some, strsD_len]
  ktr_room
  refine ⟨by refine rwG sizeLine_eq ?_; simp, ?_⟩
  refine rwG (show (S.stack.length : Int) - 1 = ((S.stack.length - 1 : Nat) : Int) by lia) ?_
  refine ask_of (q_mulL (by simp only [length_singleton, Int.toNat_natCast]; lia) (smallN (by lia))) ?_
  rw [Int.toNat_natCast, rep_six]
  refine ask_of (q_addL (by rw [length_map, length_map, length_replicate, sizeLine_eq]; lia)) ?_
  refine ⟨by refine rwG sizeLine_eq ?_; simp, ?_⟩
  refine ask_of (q_addL (by rw [length_append, length_map, length_map, length_replicate, sizeLine_eq]; simp only [length_singleton]; lia)) ?_
  refine ⟨by refine rwG sizeLine_eq ?_; simp, ?_⟩
  unfold outT at hk
  rw [map_append, map_append] at hk
  exact hk
section
variable {prog : Program} {w : World} {hT : Heap}
theorem look_mem : ∀ {l : List (Addr × α)} {x : Addr} {d : α}, l.lookup x = some d -> (x, d) ∈ l
 | (y, e) :: l, x, d, h => by
  rw [lookup_cons] at h
  cases hb : x == y with
  | true => rw [hb] at h; obtain rfl := osi h; obtain rfl := beq_iff_eq.mp hb; exact mem_cons_self
  | false => rw [hb] at h; exact mem_cons_of_mem _ (look_mem h)
theorem snd_longest (B : Base (KK w.params) w hT tb) : ∀ A, Room 1 A -> Sound prog w hT A 79 S_longest :=
 sound_user (r := 0) (U := []) B (fun _ _ _ _ q => nomatch q) (f_longest B.inK) (m_longest _) fun ds k h => by
  apply xEEAAq1L h; intro raw W hl hk; (try clear h)
  exact ⟨rfl, w_longest hl hk⟩
theorem snd_level (B : Base (KK w.params) w hT tb) : ∀ A, Room 1 A -> Sound prog w hT A 86 S_level :=
 sound_user (r := 0) (U := []) B (fun _ _ _ _ q => nomatch q) (f_level B.inK) (m_level _) fun ds k h => by
  apply xEEEAAAAq1L h; intro raw W ts hl h1 h2 hk; (try clear h)
  exact ⟨rfl, w_level hl h1 h2 hk⟩
theorem snd_equal (B : Base (KK w.params) w hT tb) : ∀ A, Room 1 A -> Sound prog w hT A 93 S_equal :=
 sound_user (r := 0) (U := []) B (fun _ _ _ _ q => nomatch q) (f_equal B.inK) (m_equal _) fun ds k h => by
  apply xEEEEAq1L h; intro r1 A r2 B hk; (try clear h)
  exact ⟨rfl, w_equal hk⟩
theorem snd_term (B : Base (KK w.params) w hT tb) : ∀ A, Room 1 A -> Sound prog w hT A 138 S_term :=
 sound_user (r := 0) (U := []) B (fun _ _ _ _ q => nomatch q) (f_term B.inK) (m_term _) fun ds k h => by
  apply xEAq1L h; intro x hk; (try clear h)
  exact ⟨rfl, w_term hk⟩
theorem snd_nonterm (B : Base (KK w.params) w hT tb) : ∀ A, Room 1 A -> Sound prog w hT A 145 S_nonterm :=
 sound_user (r := 0) (U := []) B (fun _ _ _ _ q => nomatch q) (f_nonterm B.inK) (m_nonterm _) fun ds k h => by
  apply xEAq1L h; intro x hk; (try clear h)
  exact ⟨rfl, w_nonterm hk⟩
theorem snd_eof (B : Base (KK w.params) w hT tb) : ∀ A, Room 1 A -> Sound prog w hT A 152 S_eof :=
 sound_user (r := 0) (U := []) B (fun _ _ _ _ q => nomatch q) (f_eof B.inK) (m_eof _) fun ds k h => by
  apply xEAq1L h; intro x hk; (try clear h)
  exact ⟨rfl, w_eof hk⟩
theorem snd_texts (B : Base (KK w.params) w hT tb) : ∀ A, Room 1 A -> Sound prog w hT A 159 S_texts :=
 sound_user (r := 0) (U := []) B (fun _ _ _ _ q => nomatch q) (f_texts B.inK) (m_texts _) fun ds k h => by
  apply xAq1L h; intro hk; (try clear h)
  exact ⟨rfl, w_texts hk⟩
theorem snd_numbers (B : Base (KK w.params) w hT tb) : ∀ A, Room 1 A -> Sound prog w hT A 176 S_numbers :=
 sound_user (r := 0) (U := []) B (fun _ _ _ _ q => nomatch q) (f_numbers B.inK) (m_numbers _) fun ds k h => by
  apply xEAAAq1L h; intro l h1 h2 hk; (try clear h)
  exact ⟨rfl, w_numbers h1 h2 hk⟩
theorem snd_columns (B : Base (KK w.params) w hT tb) : ∀ A, Room 1 A -> Sound prog w hT A 190 S_columns :=
 sound_user (r := 0) (U := []) B (fun _ _ _ _ q => nomatch q) (f_columns B.inK) (m_columns _) fun ds k h => by
  apply xEAq1L h; intro l hk; (try clear h)
  exact ⟨rfl, w_columns hk⟩
theorem snd_under (B : Base (KK w.params) w hT tb) : ∀ A, Room 1 A -> Sound prog w hT A 195 S_under :=
 sound_user (r := 0) (U := []) B (fun _ _ _ _ q => nomatch q) (f_under B.inK) (m_under _) fun ds k h => by
  apply xEEAAAq1L h; intro a b h1 h2 hk; (try clear h)
  exact ⟨rfl, w_under (by refine rwG sizeLine_eq ?_; lia) (by refine rwG sizeLine_eq ?_; lia) hk⟩
theorem snd_words (B : Base (KK w.params) w hT tb) : ∀ A, Room 1 A -> Sound prog w hT A 200 S_words :=
 sound_user (r := 0) (U := []) B (fun _ _ _ _ q => nomatch q) (f_words B.inK) (m_words _) fun ds k h => by
  apply xEEEEAAAAq1L h; intro one other run hits h1 h2 h3 hk; (try clear h)
  exact ⟨rfl, w_words h1 h2 h3 hk⟩
theorem snd_cut (B : Base (KK w.params) w hT tb) : ∀ A, Room 1 A -> Sound prog w hT A 205 S_cut :=
 sound_user (r := 0) (U := []) B (fun _ _ _ _ q => nomatch q) (f_cut B.inK) (m_cut _) fun ds k h => by
  obtain ⟨l, rfl, h1, h2, h3, hk⟩ := h
  exact ⟨rfl, w_cut h1 h2 h3 hk⟩
theorem snd_depth (B : Base (KK w.params) w hT tb) : ∀ A, Room 1 A -> Sound prog w hT A 210 S_depth :=
 sound_user (r := 0) (U := []) B (fun _ _ _ _ q => nomatch q) (f_depth B.inK) (m_depth _) fun ds k h => by
  apply xEAAq1L h; intro l h1 hk; (try clear h)
  exact ⟨rfl, w_depth h1 hk⟩
theorem snd_all1 (B : Base (KK w.params) w hT tb) : ∀ p ∈ U1, ∀ A, Room 1 A -> keepIn (KK w.params) (.ref p.1) = true /\ Sound prog w hT A p.1 p.2 :=
  fmc ⟨fun A hA => ⟨k_longest _, snd_longest B A hA⟩,
  fmc ⟨fun A hA => ⟨k_level _, snd_level B A hA⟩,
  fmc ⟨fun A hA => ⟨k_equal _, snd_equal B A hA⟩,
  fmc ⟨fun A hA => ⟨k_term _, snd_term B A hA⟩,
  fmc ⟨fun A hA => ⟨k_nonterm _, snd_nonterm B A hA⟩,
  fmc ⟨fun A hA => ⟨k_eof _, snd_eof B A hA⟩,
  fmc ⟨fun A hA => ⟨k_texts _, snd_texts B A hA⟩,
  fmc ⟨fun A hA => ⟨k_numbers _, snd_numbers B A hA⟩,
  fmc ⟨fun A hA => ⟨k_columns _, snd_columns B A hA⟩,
  fmc ⟨fun A hA => ⟨k_under _, snd_under B A hA⟩,
  fmc ⟨fun A hA => ⟨k_words _, snd_words B A hA⟩,
  fmc ⟨fun A hA => ⟨k_cut _, snd_cut B A hA⟩,
  fmc ⟨fun A hA => ⟨k_depth _, snd_depth B A hA⟩,
  forall_mem_nil _⟩⟩⟩⟩⟩⟩⟩⟩⟩⟩⟩⟩⟩
theorem snd_U1 (B : Base (KK w.params) w hT tb) : ∀ A, Room 1 A -> ∀ b S', U1.lookup b = some S' -> keepIn (KK w.params) (.ref b) = true /\ Sound prog w hT A b S' := fun A hA b S' h => snd_all1 B (b, S') (look_mem h) A hA
theorem snd_new (B : Base (KK w.params) w hT tb) : ∀ A, Room 2 A -> Sound prog w hT A 100 S_new :=
 sound_user (r := 1) (U := U1) B (snd_U1 B) (f_new B.inK) (m_new _) fun ds k h => by
  apply xEEEEAAAAAq1L h; intro r1 A r2 B h1 h2 h3 h4 hk; (try clear h)
  exact ⟨rfl, w_new h1 h2 h3 h4 hk⟩
theorem snd_less (B : Base (KK w.params) w hT tb) : ∀ A, Room 2 A -> Sound prog w hT A 107 S_less :=
 sound_user (r := 1) (U := U1) B (snd_U1 B) (f_less B.inK) (m_less _) fun ds k h => by
  apply xEEEEAAAAAq1L h; intro r1 A r2 B h1 h2 h3 h4 hk; (try clear h)
  exact ⟨rfl, w_less h1 h2 h3 h4 hk⟩
theorem snd_nlw (B : Base (KK w.params) w hT tb) : ∀ A, Room 2 A -> Sound prog w hT A 114 S_nlw :=
 sound_user (r := 1) (U := U1) B (snd_U1 B) (f_nlw B.inK) (m_nlw _) fun ds k h => by
  apply xEEEEAAAAAq1L h; intro r1 A r2 B h1 h2 h3 h4 hk; (try clear h)
  exact ⟨rfl, w_nlw h1 h2 h3 h4 hk⟩
theorem snd_page (B : Base (KK w.params) w hT tb) : ∀ A, Room 2 A -> Sound prog w hT A 164 S_page :=
 sound_user (r := 1) (U := U1) B (snd_U1 B) (f_page B.inK) (m_page _) fun ds k h => by
  apply xEAAq1L h; intro xs h1 hk; (try clear h)
  exact ⟨rfl, w_page h1 hk⟩
theorem snd_told (B : Base (KK w.params) w hT tb) : ∀ A, Room 2 A -> Sound prog w hT A 215 S_told :=
 sound_user (r := 1) (U := U1) B (snd_U1 B) (f_told B.inK) (m_told _) fun ds k h => by
  apply xEAAAq1L h; intro lines h1 h2 hk; (try clear h)
  exact ⟨rfl, w_told h1 h2 hk⟩
theorem Room.under (R : Room (r + 1) A) (C : Addr) (vals : List Value) : Room r (A.under (.builtin "type.__call__" ⟨.ref C :: vals, []⟩)) :=
 ⟨R.hh, by have := R.depth; rw [depth_under_make]; lia, by have := R.units; rw [units_under_make]; lia⟩
theorem k_ws (P : Params) : keepIn (KK P) (.ref 117) = true := by kernel_rfl
theorem mk_ws (P : Params) : makesIn (KK P) 117 = true := by kernel_rfl
theorem in_ws (P : Params) : findIn (KK P) (.ref 117) "__init__" = some (some (.ref 72)) := by kernel_rfl
theorem ty_ws (P : Params) : typeIn (KK P) (.ref 72) = some (.type "function") := by kernel_rfl
theorem snd_ws (B : Base (KK w.params) w hT tb) : ∀ A, Room 3 A -> Sound prog w hT A 117 S_ws := fun A hA ds k X s vs O h hr => by
 refine xEAA h fun l z1q hl hk => ?_; (try clear h); obtain rfl := z1q
 refine hr.consE fun v vs' r1 rs => ?_
 refine rs.nilE ?_
 obtain ⟨hh, gs, dr, tk, os⟩ := s
 have XK : (KK w.params).In hh := B.inK.keeps O.base
 refine wpAny_call (make_core (makes_of XK (mk_ws _)) (looks_findIn XK (in_ws _)) (fun self => bind_fn XK self (ty_ws _)) (.inl rfl) ?_)
 generalize hdx : hh.objs.size = dx
 have hn0 : ∀ b : Nat, dx <= b -> hh.get? b = none := fun b hb => by
  cases q : hh.get? b with
  | none => rfl
  | some o =>
   have : @LT.lt Nat _ b dx := hdx ▸ Heap.lt_size q
   lia
 have g1 : ((hh.push emptyDict).push (instObj 117 dx)).get? (dx + 1) = some (instObj 117 dx) := by
  have := Heap.get?_push_size (hh.push emptyDict) (o := instObj 117 dx) rfl
  rw [Heap.size_push, hdx] at this
  exact this
 have g2 : ((hh.push emptyDict).push (instObj 117 dx)).get? dx = some emptyDict := by
  have := Heap.get?_push_size hh (o := emptyDict) rfl
  rw [hdx] at this
  exact Heap.get?_push_of_some _ this
 have keep : ∀ b o, hh.get? b = some o -> ((hh.push emptyDict).push (instObj 117 dx)).get? b = some o := fun b o e => Heap.get?_push_of_some _ (Heap.get?_push_of_some _ e)
 have nX : ∀ b, hh.get? b = none -> ¬ X b := fun b e x => by
  refine xE (O.live _ x) fun o q => ?_
  rw [show hh.get? b = some o from q] at e; injection e
 have hTn : ∀ b, hh.get? b = none -> hT.get? b = none := fun b e => by
  cases q : hT.get? b with
  | none => rfl
  | some o => rw [show hh.get? b = some o from O.base b o q] at e; injection e
 let X' : Addr -> Prop := fun b => X b \/ b = dx
 have O' : Ok hT X' ⟨(hh.push emptyDict).push (instObj 117 dx), gs, dr, tk, os⟩ := ⟨fun b o e => keep b o (O.base b o e), fun b x => x.elim (O.off b) fun q => q ▸ hTn dx (hn0 dx (Nat.le_refl _)), fun b x => by
  rcases x with x | x
  ·obtain ⟨o, e⟩ := O.live b x; exact ⟨o, keep b o e⟩
  ·refine rwG x ?_; exact ⟨_, g2⟩⟩
 have hX'o : ∀ b o, hh.get? b = some o -> X' b -> X b := fun b o e x => x.resolve_right fun q => by rw [q] at e; exact clash (hn0 dx (Nat.le_refl _)) e
 have own1 : OwnRd w.params ((hh.push emptyDict).push (instObj 117 dx)) X' (.inst 117 [] []) (.ref (dx + 1)) dx :=
  .inst (es := []) (n := 0) (fun x => x.elim (nX _ (hn0 _ (Nat.le_succ _))) fun q => by have : dx + 1 = dx := q; lia) (.inr rfl) g1 g2 trivial .nil
 have hlook : ∀ x d, ((["self", "ws"].zip [Ent.own (.inst 117 [] []), .v (.str (st l))]) : Ro).lookup x = some (.own d) -> x = "self" := fun x d q => by
  rcases look_put q with ⟨e, _⟩ | ⟨_, q⟩
  ·exact e
  ·rcases look_put q with ⟨_, e⟩ | ⟨_, q⟩
   ·injection e
   ·injection q
 refine enter_user (κ := fun _ => dx) (X₀ := X) (X := X') (es := [.own (.inst 117 [] []), .v (.str (st l))]) (f_init B.inK) B.nolimit (by have := (hA.under 117 [v]).depth; lia) O' (fun _ x => .inl x) rfl rfl (fun i p e u hp he hu => ?_) (fun x y d d' q q' _ => (hlook x d q).trans (hlook y d' q').symm) (fun x d q => nX dx (hn0 dx (Nat.le_refl _))) fun s₁ X'' k₁ S g hsub hvals => ?_
 ·rcases i with _ | _ | i
  ·obtain rfl := osi he; obtain rfl := osi hu
   exact own1
  ·obtain rfl := osi he; obtain rfl := osi hu
   exact Rd.move (fun b o _ e => keep b o e) hX'o r1
  ·injection he
 ·have hK := w_init (U := []) (l := l) (K := fun fl ρ => fl = .next /\ ρ.lookup "self" = some (.own (wsD (st l) (wsOf l)))) hl fun ρ e => ⟨rfl, e⟩
  refine wpAny_mono (blA (cx_ok (U := []) B ((hA.under 117 [v]).deeper _) (fun _ _ q => nomatch q)) c_init _ _ _ _ X X'' s₁ _ (m_init _) rfl S hK) (fun fl s' q => ?_) (fun _ _ f => f.elim)
  refine xEEEAAAA q fun fl' ρ' X₃ z1q S₃ hf kb g' => ?_; (try clear q); obtain ⟨rfl, hlk⟩ := z1q
  cases fl <;> first | exact hf.elim | skip
  obtain ⟨r, how, hnr⟩ := S₃.own_val hlk (kb.pin "self" (by decide) _ (hvals 0 "self" _ rfl rfl))
  unfold wsD at how
  refine how.instE' fun _ _ a1 a2 a3 a4 a5 a6 => ?_
  refine ⟨rfl, ?_, _, hk, .inst (nX _ (hn0 _ (Nat.le_succ _))) hnr a3 a4 a5 (a6.less S₃.sub)⟩
  refine xEEA k₁ fun H1 t1 e1 _ => ?_; clear k₁; rename_i k₁
  subst e1
  refine xEEAA kb fun H2 t2 e2 _ _ => ?_; clear kb; rename_i kb _
  subst e2
  refine ⟨H2, t2, rfl, fun b o e => kb b o ?_ (k₁ b o (keep b o e))⟩
  by_cases hx : X b
  ·exact .inr hx
  ·refine .inl fun q => ?_
   rcases g b q with q | q
   ·exact hx (hX'o b o e q)
   ·have q' : ((hh.push emptyDict).push (instObj 117 dx)).get? b = none := q
    exact clash q' (keep b o e)
end
section
variable {prog : Program} {w : World} {A : Around} {E : Value -> Shared -> Prop} {s : Shared}
noncomputable def Tab (c P : Addr) (h : Heap) : Prop := ∃ ps, CodeHd h c P /\ h.get? P = some (tabObj ps) /\ TriplesOk ps.toList
theorem Tab.keeps (t : Tab c P h) (k : ∀ b o, h.get? b = some o -> h'.get? b = some o) : Tab c P h' := let ⟨ps, a, b, d⟩ := t; ⟨ps, a.keeps k, k _ _ b, d⟩
theorem Tab.keep2 (t : Tab c P h) (k1 : ∀ o, h.get? c = some o -> h'.get? c = some o) (k2 : ∀ o, h.get? P = some o -> h'.get? P = some o) : Tab c P h' := by
 refine xEAA t fun ps z1q b d => ?_; (try clear t); obtain ⟨o, vs, file, tf, flags, tg, inF, text, tt, e, r⟩ := z1q
 exact ⟨ps, ⟨o, vs, file, tf, flags, tg, inF, text, tt, k1 _ e, r⟩, k2 _ b, d⟩
theorem Tab.ne (t : Tab c P h) (e : h.get? a = some o) (hn : ∀ ps, o ≠ tabObj ps) : a ≠ P := fun q => by
 refine xEAA t fun ps _ b _ => ?_; (try clear t)
 rw [q, b] at e
 exact hn ps (osi e).symm
theorem gcode (hc : env.code = .ref c) (T : Tab c P s.heap)
  (hQ : ∀ code h' tk, Heap.ExtBut P s.heap h' -> Tab c P h' -> Q code { s with heap := h', toks := tk }) : wpAny M A (genexprCode env pos qualname scope) Q E s := by
 refine xEAA T fun ps C hP ht => ?_; (try clear T)
 cases hnf : codeAmong pos ps.toList with
 | none =>
  refine wpAny_genexprCodeX hc (C.code hP ht) (C.tab hP) hnf fun c' h' tk hx _ _ hok _ htab _ => hQ _ _ _ hx ⟨_, CodeHd.of hok htab, htab.2, ?_⟩
  obtain ⟨_, _, _, _, _, _, _, _, _, op, _, _, _, _, _, _, _, hop, hpd, htr, _⟩ := hok
  exact htr
 | some cv =>
  obtain ⟨o, vs, file, tf, flags, tg, inF, text, tt, op, ho, hd, h11, h2, h7, h9, h10, hop, hpd, htr, hne⟩ := C.code hP ht
  unfold genexprCode codeAt
  refine rwG hc (rwG (if_neg (show ¬ ((Value.ref c == Value.none) = true) from Bool.false_ne_true)) ?_)
  refine wpAny_bind (wpAny_fieldsOf ho hd ?_)
  refine rwG h11 ?_
  refine wpAny_bind (wpAny_fieldsOf hop hpd ?_)
  refine rwG hnf ?_
  exact wpAny_pure (hQ cv s.heap s.toks (Heap.ExtBut.refl _ _) ⟨ps, C, hP, ht⟩)
theorem passing_all (n : Nat) : passing (fun _ => true) n 0 = List.range n := by simp [passing]
noncomputable def GenL (prog : Program) (w : World) (A : Around) (Lx K a : Addr) (n : Nat) (F : Nat -> Value -> Prop) (s : Shared) : Prop :=
 ∃ (g : Nat) (C : Addr) (fp wr : List Addr), WalksS prog w A.in4 a (a :: C :: fp) (C :: wr) (GenOnlyQ g) (passing (fun _ => true) n 0).length (fun j y => ∃ i, (passing (fun _ => true) n 0)[j]? = some i /\ F i y) (GenAt prog w A.in4 a g C fp wr (fun _ => true) n F) /\
  GenAt prog w A.in4 a g C fp wr (fun _ => true) n F 0 s /\ (∀ b ∈ a :: C :: fp, b ≠ Lx /\ b <= a) /\ (∃ o, s.heap.get? a = some o) /\ ∀ b ∈ C :: wr, K < b
theorem GenL.move {Lx K a : Addr} (X : GenL prog w A Lx K a n F s) (k : ∀ b o, b ≠ Lx -> s.heap.get? b = some o -> h'.get? b = some o) : GenL prog w A Lx K a n F { s with heap := h', toks := tk } := by
 refine xEEEEAAAA X fun g C fp wr W hat hb z1q hw => ?_; (try clear X); obtain ⟨o, ho⟩ := z1q
 have := W.frame 0 s h' s.toks hat (Nat.le_refl _) fun b hm o e => k b o (hb b hm).1 e
 exact ⟨g, C, fp, wr, W, this, hb, ⟨o, k a o (hb a mem_cons_self).1 ho⟩, hw⟩
theorem GenL.gen {Lx K a : Addr} (X : GenL prog w A Lx K a n F s) : Gen prog w A K a n F s := by
 refine xEEEEAAAA X fun g C fp wr W hat hb z1q hw => ?_; (try clear X); obtain ⟨o, ho⟩ := z1q
 have Y : Gen prog w A K a (passing (fun _ => true) n 0).length (fun j y => ∃ i, (passing (fun _ => true) n 0)[j]? = some i /\ F i y) s := ⟨_, _, _, _, W, hat, (fun i s' st => st.1.typeIs), mem_cons_self, fun b hm => Nat.lt_of_le_of_lt (hb b hm).2 (Heap.lt_size ho), hw⟩
 rw [passing_all, length_range] at Y
 refine Y.imp fun j y hy => ?_
 refine xEA hy fun i hi hf => ?_; (try clear hy)
 obtain ⟨hj, e⟩ := List.getElem?_eq_some_iff.mp hi
 rw [List.getElem_range] at e
 exact e ▸ hf
theorem gen_exp (hcode : env.code = .ref c)
  (hh : A.handled = none) (hco : scope.isCoroutine = false) (hclos : closureFor scope env = pure []) (hcell : ∀ y ∈ scope.names, y.2 ≠ .cell) (h0 : scope.names.lookup (".0" : Str) = some NameKind.local)
  (hx : scope.names.lookup x = some .local) (hkind : scope.kind = .function) (hroom : A.depth < recursionLimit)
  (h : wpAny (model prog w) A (eval iter env) (fun xv s₁ => ∃ l items, ∃ F : Nat -> Value -> Prop, xv = .ref l /\ s₁.heap.IsList l items /\ Tab c P s₁.heap /\ AllBare s₁.gens /\ s₁.heap.NoLimit /\ BMod s₁.heap env.globals mg bm ob /\ Lx < s₁.heap.objs.size /\ l ≠ Lx /\ cStatics ≠ Lx /\
    (∀ (code : Value) (C : Addr) (A' : Around) E' i v (u : Shared) m₂, A'.handled = none -> A'.depth <= A.depth + 1 -> A'.units <= A.units + 8 -> items[i]? = some v -> u.heap.Ns C m₂ -> m₂ x = some v -> s₁.heap.get? C = none -> (∀ b o, b ≠ P -> b ≠ Lx -> s₁.heap.get? b = some o -> u.heap.get? b = some o) ->
     wpAny (model prog w) A' (eval elt (genEnv scope [] C code builtinsNs env)) (fun y s₃ => F i y /\ Keeps u s₃) E' u) /\
    (∀ a s₅, (∀ b o, b ≠ P -> s₁.heap.get? b = some o -> s₅.heap.get? b = some o) -> Tab c P s₅.heap -> AllBare s₅.gens -> s₅.os = s₁.os -> GenL prog w A Lx (s₁.heap.objs.size - 1) a items.size F s₅ -> Q (.ref a) s₅)) E s)
  (hs : ∀ x, genFold iter env x = pure x) :
  wpAny (model prog w) A (eval (.GeneratorExp elt [⟨.Name x px, iter, [], 0⟩] scope pos) env) Q E s := by
 refine wpAny_GeneratorExp_make hco hclos hcell h0 hkind hroom (wpAny_mono h (fun xv s₁ h₁' => ?_) fun _ _ e => e) hs
 obtain ⟨l, items, F, rfl, hl, T, G, hlim, M, hLx, hlLx, hcLx, hq, hQ⟩ := h₁'
 have hlt : l < s₁.heap.objs.size := by obtain ⟨_, e, _⟩ := hl; exact Heap.lt_size e
 have hlP : l ≠ P := by
  refine xEAA hl fun o ho hc _ => ?_; (try clear hl)
  exact T.ne ho fun ps q => by rw [q] at hc; injection hc
 refine wpAny_pyIter_list hl ⟨hlim.push _, gcode hcode (T.keeps fun _ _ e => Heap.get?_push_of_some _ e) fun code h₃ tk₃ hx₃ T₃ => ?_⟩
 have k₂ : ∀ b o, b ≠ P -> s₁.heap.get? b = some o -> h₃.get? b = some o := fun b o hb e => hx₃ b o hb (Heap.get?_push_of_some _ e)
 have hPlt : P < s₁.heap.objs.size := by obtain ⟨_, _, e, _⟩ := T; exact Heap.lt_size e
 have hIP : s₁.heap.objs.size ≠ P := fun e => by rw [<- e] at hPlt; exact Nat.lt_irrefl _ hPlt
 have hILx : s₁.heap.objs.size ≠ Lx := fun e => by rw [<- e] at hLx; exact Nat.lt_irrefl _ hLx
 have hIo := Heap.get?_push_size s₁.heap (o := { cls := .type "list_iterator", data := .fields #[.ref l, .int 0 0] }) rfl
 have hI3 := hx₃ _ _ hIP hIo
 have hsz : s₁.heap.objs.size < h₃.objs.size := Heap.lt_size hI3
 have neDict : ∀ {a : Addr} {mm : Str -> Option Value}, s₁.heap.Ns a mm -> a ≠ P := fun hn => by
  refine xEEEAA hn fun o es ep e hd _ => ?_; (try clear hn)
  exact T.ne e fun ps q => by rw [q] at hd; injection hd
 have hcP : cStatics ≠ P := let ⟨_, hns, _⟩ := hlim; neDict hns
 have hlim3 : h₃.NoLimit := (hlim.push _).extBut hx₃ hcP
 have bmP : bm ≠ P := T.ne M.obj fun ps q => by have := M.data; rw [q] at this; injection this
 have M₃ : BMod h₃ env.globals mg bm ob := ⟨(M.ns.push _).extBut hx₃ (neDict M.ns), M.name, M.ne, k₂ _ _ bmP M.obj, M.cls, M.dict, M.data⟩
 have hclt : cStatics < h₃.objs.size := let ⟨_, hn, _⟩ := hlim3; hn.lt
 have hcI : cStatics ≠ s₁.heap.objs.size := fun e => by
  refine xEA hlim fun _ hns _ => ?_; (try clear hlim)
  have := hns.lt
  rw [e] at this
  exact Nat.lt_irrefl _ this
 refine wpAny_builtinsFor M₃.ns M₃.name M₃.ne M₃.obj M₃.cls M₃.dict M₃.data ?_
 intro h' hn' hs'
 have hsz' : h'.objs.size = h₃.objs.size + 1 := by rw [hs'.1, Heap.size_push]
 have keep' : ∀ b o, h₃.get? b = some o -> h'.get? b = some o := fun b o e => hs'.extBut b o (Nat.ne_of_lt (Heap.lt_size e)) (Heap.get?_push_of_some _ e)
 let gobj : Obj := { cls := .type "generator", data := .fields #[.int s₁.gens.size 0, .str "<genexpr>" (tk₃ + 1), .str (env.qual ++ "<genexpr>") (tk₃ + 1 + 1)] }
 have keep₅ : ∀ b o, h₃.get? b = some o -> (h'.push gobj).get? b = some o := fun b o e => Heap.get?_push_of_some _ (keep' b o e)
 let fp : List Addr := (List.range h₃.objs.size).filter fun b => decide (b ≠ Lx)
 have fpm : ∀ b, b ∈ fp ↔ b < h₃.objs.size /\ b ≠ Lx := fun b => by
  show b ∈ (List.range h₃.objs.size).filter _ ↔ _
  rw [mem_filter, mem_range, decide_eq_true_eq]
 have W₂ : ∀ A' : Around, A'.handled = none -> Walks prog w A' s₁.heap.objs.size fp [s₁.heap.objs.size] items.size (fun i v => items[i]? = some v) (fun i h => h.IsListIter s₁.heap.objs.size l i /\ h.IsList l items) := fun A' hA => (Walks.list hA _ _ (Nat.ne_of_lt hlt) items).mono_fp fun b hb => by
  rcases mem_cons.mp hb with rfl | hb
  ·exact (fpm _).mpr ⟨hsz, hILx⟩
  ·refine rwG (mem_singleton.mp hb) ?_; exact (fpm _).mpr ⟨Nat.lt_trans hlt hsz, hlLx⟩
 have st3 : h₃.IsListIter s₁.heap.objs.size l 0 /\ h₃.IsList l items := ⟨⟨_, hI3, rfl, rfl⟩, (hl.push _).extBut hx₃ hlP⟩
 have hq' : QuietGenD prog w (genEnv scope [] h₃.objs.size code builtinsNs env) x [] elt fp [s₁.heap.objs.size] (fun i v => items[i]? = some v) (fun _ => true) F (h'.push gobj) (A.in4.depth + 1) (A.in4.units + 4) := ⟨fun A' E' i v u m₂ _ _ _ _ _ _ _ => wpAny_pure ⟨rfl, kr _⟩, fun A' E' i v u m₂ hA hD hU hP _ hn hm hk => by
  refine hq code _ A' E' i v u m₂ hA hD hU hP hn hm ?_ fun b o hb hbL e => hk b ((fpm b).mpr ⟨Nat.lt_trans (Heap.lt_size e) hsz, hbL⟩) (fun q => ?_) o (keep₅ b o (k₂ b o hb e))
  ·cases q : s₁.heap.get? h₃.objs.size with
   | none => rfl
   | some o => have h1 := Heap.lt_size q; exact absurd (Nat.lt_trans h1 hsz) (Nat.lt_irrefl _)
  ·have := Heap.lt_size e
   rw [mem_singleton.mp q] at this
   exact Nat.lt_irrefl _ this⟩
 refine hQ h'.objs.size _ (fun b o hb e => keep₅ b o (k₂ b o hb e)) (T₃.keeps keep₅) (G.push rfl) rfl ?_
 have hCL : h₃.objs.size ≠ Lx := fun e => Nat.lt_irrefl _ (Nat.lt_trans (e ▸ hLx : h₃.objs.size < s₁.heap.objs.size) hsz)
 have haL : h'.objs.size ≠ Lx := fun e => by
  have h1 : h'.objs.size < s₁.heap.objs.size := e ▸ hLx
  rw [hsz'] at h1
  exact Nat.lt_irrefl _ (Nat.lt_trans (Nat.lt_trans hsz (Nat.lt_succ_self _)) h1)
 have haf : h'.objs.size ∉ fp := fun hm => by
  have h1 := ((fpm _).mp hm).1
  rw [hsz'] at h1
  exact Nat.lt_irrefl _ (Nat.lt_trans (Nat.lt_succ_self _) h1)
 refine ⟨s₁.gens.size, h₃.objs.size, fp, [s₁.heap.objs.size], WalksS.genexpQ (A := A.in4) hh _ _ _ _ _ _ items.size F (by refine rwG hsz' ?_; exact Nat.succ_ne_self _) haf (fun b hb => ?_) hroom ((fpm _).mpr ⟨hclt, hcLx⟩) (Nat.ne_of_lt hclt) (fun hm => hcI (mem_singleton.mp hm)), ?_, ?_, ⟨gobj, Heap.get?_push_size _ rfl⟩, ?_⟩
 ·refine rwG (mem_singleton.mp hb) ?_; exact (fpm _).mpr ⟨hsz, hILx⟩
 ·refine GenAt.freshD (A := A.in4) (cenv := genEnv scope [] h₃.objs.size code builtinsNs env) (m := fun y => if y = ".0" then some (.ref s₁.heap.objs.size) else none) hh W₂ (fun _ => true) F hx (by simp [genEnv, hkind]) hco
   (fun hm => Nat.lt_irrefl _ ((fpm _).mp hm).1) hq' ⟨_, _, _, Heap.get?_push_size _ rfl, rfl, rfl, rfl⟩ (Array.getElem?_push_size ..) ((W₂ A hh).frame _ _ _ st3 fun b _ o e => keep₅ b o e) (hn'.push _) (hlim3.keeps keep₅)
 ·intro b hb
  rcases mem_cons.mp hb with rfl | hb
  ·exact ⟨haL, Nat.le_refl _⟩
  ·refine rwG hsz' ?_
   rcases mem_cons.mp hb with rfl | hb
   ·exact ⟨hCL, Nat.le_succ _⟩
   ·exact ⟨((fpm b).mp hb).2, Nat.le_of_lt (Nat.lt_succ_of_lt ((fpm b).mp hb).1)⟩
 ·intro b hb
  have h1 : s₁.heap.objs.size - 1 < s₁.heap.objs.size := Nat.sub_lt (Nat.lt_of_le_of_lt (Nat.zero_le _) hlt) Nat.one_pos
  rcases mem_cons.mp hb with rfl | hb
  ·exact Nat.lt_trans h1 hsz
  ·refine rwG (mem_singleton.mp hb) ?_; exact h1
theorem gen_join {a L K : Addr} (hn : s.heap.Ns L m) (hLK : L <= K) (G : AllBare s.gens) (X : Gen prog w A K a n F s) (tx : Nat -> Str) (htx : ∀ j v, F j v -> ∃ u, v = .str (tx j) u)
  (hok : JoinOk sep ((List.range n).map tx) = true) (hsz : n <= sizeLine)
  (hQ : ∀ s' t', AllBare s'.gens -> s'.os = s.os -> (∀ b o, b <= K -> s.heap.get? b = some o -> s'.heap.get? b = some o) -> Q (.str (Txt.join sep ((List.range n).map tx)) t') s') :
  wpAny (model prog w) A (call (.builtin "str.join") [.str sep t, .ref a]) Q E s :=
 join_rowsK (h₀ := {}) (L := L) (m := m) ⟨hn, fun b o e => by simp [Heap.get?] at e, Nat.zero_le _⟩ G X hLK tx htx hok (fun s' t' _ g o k => hQ s' t' g o k) hsz
end
section
variable {prog : Program} {w : World} {hT : Heap} {c : Cx} {A : Around} {E : Value -> Shared -> Prop}
theorem cells_nil' (h : (names.all fun y => y.2 != .cell) = true) : ∀ (n : Nat) (acc : List (Str × Addr)), cellsFrom n names acc = acc := by
 induction names with
 | nil => intro n acc; rfl
 | cons y r ih =>
  intro n acc
  obtain ⟨a, k⟩ := y
  rw [all_cons, Bool.and_eq_true] at h
  unfold cellsFrom
  have : (k == NameKind.cell) = false := by have := h.1; simpa using this
  refine rwG this ?_
  exact ih h.2 n acc
theorem noE (h : wpAny M A t Q FF s) : wpAny M A t Q E s := wpAny_mono h (fun _ _ q => q) (fun _ _ f => f.elim)
noncomputable def retV : Flow -> Value
 | .ret v => v
 | _ => .none
theorem enter_plain {X₀ X : Addr -> Prop} {s : Shared} {κ : String -> Addr} {Q E : Value -> Shared -> Prop} (F : FnAt hT a fd body ps) (hlim : hT.NoLimit) (hA : Room (r + 1) A) (hcell : (fd.scope.names.all fun y => y.2 != .cell) = true)
  (O : Ok hT X s) (hX₀ : ∀ a, X₀ a -> X a) (hle : es.length = ps.length) (hlv : vs.length = ps.length)
  (hE : ∀ (i : Nat) (p : String) (e : Ent) (v : Value), ps[i]? = some p -> es[i]? = some e -> vs[i]? = some v -> EntRd w.params s.heap X e v (κ p))
  (hinj : ∀ x y d d', (ps.zip es).lookup x = some (.own d) -> (ps.zip es).lookup y = some (.own d') -> κ x = κ y -> x = y) (h0 : ∀ x d, (ps.zip es).lookup x = some (.own d) -> ¬ X₀ (κ x))
  (h : ∀ env A₁ s₁ X', s.heap.get? env.locals = none -> Room r A₁ -> (∀ outer, A.frames = some outer -> A₁.frames = some (env :: outer)) -> (∀ n, env.cells.lookup n = none) -> env.frame = some env.locals -> env.code = fd.code -> env.scope.names = fd.scope.names ->
   Keeps s s₁ -> St w.params hT env X₀ X' (ps.zip es) s₁.heap -> (∀ b, X' b -> X b \/ s.heap.get? b = none) -> (∀ b, X b -> X' b) -> (∀ (i : Nat) (p : String) (v : Value), ps[i]? = some p -> vs[i]? = some v -> SelfAt env s₁.heap p v) ->
   wpAny (model prog w) A₁ (execs body env) (fun f s' => Q (retV f) s') (fun e s' => wpAny (model prog w) A₁ (leaving env e) (fun _ s'' => E e s'') E s') s₁) :
  wpAny (model prog w) A (call (.ref a) vs) Q E s := by
 refine wpAny_call (enter_user (κ := κ) (X₀ := X₀) (es := es) F hlim (by have := hA.depth; lia) O hX₀ hle hlv hE hinj h0 fun s₁ X' k₁ S g₁ hsub hvals => ?_)
 refine wpAny_mono (h (callEnvC fd s.heap.objs.size a) _ s₁ X' ?_ (hA.deeper _) (fun outer hfr => Around.frames_deeper hfr) (fun n => ?_) rfl rfl rfl k₁ S g₁ hsub hvals) (fun f s' q => ?_) (fun _ _ q => q)
 ·show s.heap.get? s.heap.objs.size = none
  cases q : s.heap.get? s.heap.objs.size with
  | none => rfl
  | some o => exact absurd (Heap.lt_size q) (Nat.lt_irrefl _)
 ·show (cellsFrom (s.heap.objs.size + 1) _ []).lookup n = none
  rw [cells_nil' hcell]
  rfl
 ·cases f <;> exact q
section
variable {e : CE} {names : List (Str × NameKind)} {ex : Expr} {env : Env} {ρ : Ro} {X₀ X : Addr -> Prop} {s : Shared} {Q E : Value -> Shared -> Prop}
theorem EvS.strE (H : EvS prog w hT c A e) (hm : mE names e ex = true) (ho : e.isOwn = false) (hn : env.scope.names = names) (S : St w.params hT env X₀ X ρ s.heap) (hw : evW c ρ e fun d => d = .str x)
  (h : ∀ t s', Keeps s s' -> St w.params hT env X₀ X ρ s'.heap -> Q (.str x t) s') : wpAny (model prog w) A (eval ex env) Q E s :=
 noE (H.use hm hn S hw fun u s' d k S' hK hr _ => by
  subst hK
  refine (hr.rd ho).strE fun t => ?_
  exact h t s' k S')
theorem EvS.listE (H : EvS prog w hT c A e) (hm : mE names e ex = true) (ho : e.isOwn = false) (hn : env.scope.names = names) (S : St w.params hT env X₀ X ρ s.heap) (hw : evW c ρ e fun d => d = .list ds)
  (h : ∀ a vs n s', Keeps s s' -> St w.params hT env X₀ X ρ s'.heap -> ¬ X a -> s'.heap.get? a = some (listOf vs n) -> Rds w.params s'.heap X ds vs.toList -> (e.fresh = true -> s.heap.get? a = none) -> Q (.ref a) s') : wpAny (model prog w) A (eval ex env) Q E s :=
 noE (H.use hm hn S hw fun u s' d k S' hK hr hf => by
  subst hK
  revert hf
  exact (hr.rd ho).listE fun a vs n hx ho hrs hf => h _ _ _ s' k S' hx ho hrs fun q => hf q _ rfl _ rfl)
end
theorem ex_next (C : CxOK prog w hT c A) {P : Ro -> Prop} {X₀ X : Addr -> Prop} {σ : Shared} {Q : Flow -> Shared -> Prop} (hm : mS names cs stm = true) (hn : env.scope.names = names) (S : St w.params hT env X₀ X ρ σ.heap)
  (hw : exW c cs ρ fun fl ρ' => fl = .next /\ P ρ') (h : ∀ σ' ρ' X', P ρ' -> St w.params hT env X₀ X' ρ' σ'.heap -> KB (fun y => y ∉ cs.sto) env X₀ X σ σ' -> Grow X X' σ -> wpAny (model prog w) A (execs rest env) Q E σ') : wpAny (model prog w) A (execs (stm :: rest) env) Q E σ := by
 refine wpAny_execs_cons (noE (wpAny_mono (exA C cs names stm env ρ X₀ X σ _ hm hn S hw) (fun fl σ' q => ?_) (fun _ _ f => f)))
 refine xEEEAAAA q fun fl' ρ' X' z1q S' hf kb g => ?_; (try clear q); obtain ⟨rfl, hp⟩ := z1q
 cases fl <;> first | exact hf.elim | skip
 exact h σ' ρ' X' hp S' kb g
theorem call_raw (C : CxOK prog w hT c A) (hm : mE names (.call (.glob x) as) ex = true) (hn : env.scope.names = names) (S : St w.params hT env X₀ X ρ s.heap)
  (hg : c.glob.lookup x = some (.val v)) (hk : ∀ h, (∀ a o, hT.get? a = some o -> h.get? a = some o) -> ∃ k, (k = Keeper.frame \/ k = Keeper.machine \/ k = Keeper.boundFrame) /\ Looks (model prog w) h (keeperOf v) k) (hw : evsW c ρ as Kd)
  (h : ∀ vs s' ds, Keeps s s' -> St w.params hT env X₀ X ρ s'.heap -> Kd ds -> Rds w.params s'.heap X ds vs -> wpAny (model prog w) A (call v vs) Q E s') : wpAny (model prog w) A (eval ex env) Q E s := by
 apply xEEEEAAAq1L (inv_call hm); intro n p args pos h1 h2 h3
 have hgl : evW c ρ (.glob x) fun d => d = .val v := by dsimp only [evW]; exact rwG hg rfl
 refine wpAny_Call_ofName (noE ((evA C (.glob x)).1.use h1 hn S hgl fun u s₁ d k S₁ hK hr _ => ?_))
 subst hK
 refine (hr.rd h3).valE ?_
 refine callWith_of (P := fun h => ∀ a o, hT.get? a = some o -> h.get? a = some o) (by refine rwG ((plain_args h2).1) ?_; rfl) hk ?_
 exact noE (args_use (esA C as).1 h2 hn S₁ hw fun vs s' ds k' S' hK hrs => ⟨S'.base, h vs s' ds (kt k k') S' hK hrs⟩)
theorem St.but (S : St P hT env X₀ X ρ h) (hP : ∃ o vs, h.get? Pt = some o /\ o.data = .fields vs) (hPX : ¬ X Pt) (hTP : hT.get? Pt = none) (k : ∀ b o, b ≠ Pt -> h.get? b = some o -> h'.get? b = some o) : St P hT env X₀ X ρ h' := by
 have kX : ∀ b o, X b -> h.get? b = some o -> h'.get? b = some o := fun b o x e => k b o (fun q => hPX (q ▸ x)) e
 have kC : ∀ a o, (∀ vs, o.data ≠ .fields vs) -> h.get? a = some o -> h'.get? a = some o := fun a o hn e => k a o (fun q => by
  refine xEEA hP fun o' ps hp hd => ?_; (try clear hP)
  rw [q, hp] at e
  obtain rfl := osi e
  exact hn ps hd) e
 refine xEEAAA S.vars fun m κ hn hv hi ho => ?_
 refine ⟨fun a o e => k a o (fun q => by rw [q] at e; exact clash hTP e) (S.base a o e), S.off, fun a x => let ⟨o, e⟩ := S.live a x; ⟨o, kX a o x e⟩, S.sub, S.fn, S.glob, S.blt, S.loc, S.loc0, S.cell0, S.celled,
  fun n q e => ⟨(S.cells n q e).1, (S.cells n q e).2.1, let ⟨v, o, x, y⟩ := (S.cells n q e).2.2; ⟨v, o, kX _ _ (S.cells n q e).1 x, y⟩⟩, S.apart, m, κ, hn.at' fun o e => kX _ _ S.loc e, fun x e q => ?_, hi, ho⟩
 refine xEA (hv x e q) fun v hva hr => ?_
 refine ⟨v, ?_, ?_⟩
 ·rcases hva with a | ⟨a, cc, b, o, d, e'⟩
  ·exact .inl a
  ·exact .inr ⟨a, cc, b, o, kX _ _ (S.cells _ cc b).1 d, e'⟩
 ·cases e with
  | v d => exact Rd.moveC (fun a o _ hn e => kC a o hn e) (fun _ _ _ z => z) hr
  | own d => exact OwnRd.moveC hr (fun ob hn e => kC _ _ hn e) (OwnRd.root hr) (fun a o _ hn e => kC a o hn e) (fun _ _ _ z => z)
theorem St.rebase (S : St P hT env X₀ X ρ h) (hc : ∀ n, env.cells.lookup n = none) (hno : ∀ x d, ρ.lookup x ≠ some (.own d)) : St P hT env (fun b => X b /\ b ≠ env.locals) X ρ h :=
 { S with
  sub := fun a x => x.1
  loc0 := fun x => x.2 rfl
  cell0 := fun n c e => by exact clash (hc n) e
  vars := let ⟨m, κ, hn, hv, hi, ho⟩ := S.vars; ⟨m, κ, hn, hv, hi, fun x d q => absurd q (hno x d)⟩ }
theorem St.shrink {X₀ X Y : Addr -> Prop} (S : St P hT env X₀ X ρ h) (hc : ∀ n, env.cells.lookup n = none) (hno : ∀ x d, ρ.lookup x ≠ some (.own d)) (hY : Y env.locals) (h0 : ∀ a, X₀ a -> Y a) : St P hT env X₀ (fun b => X b /\ Y b) ρ h :=
 { S with
  off := fun a x => S.off a x.1
  live := fun a x => S.live a x.1
  sub := fun a x => ⟨S.sub a x, h0 a x⟩
  loc := ⟨S.loc, hY⟩
  cells := fun n c e => by exact clash (hc n) e
  vars := by
   refine xEEAAA S.vars fun m κ hn hv hi ho => ?_
   refine ⟨m, κ, hn, fun x e q => ?_, hi, ho⟩
   refine xEA (hv x e q) fun v hva hr => ?_
   refine ⟨v, hva, ?_⟩
   cases e with
   | v d => exact Rd.less hr fun a x => x.1
   | own d => exact absurd q (hno x d) }
theorem St.asVal (S : St P hT env X₀ X ρ h) (hs : SelfAt env h x v) : St P hT env X₀ X ((x, .v (.val v)) :: ρ) h :=
 { S with
  vars := by
   refine xEEAAA S.vars fun m κ hn hv hi ho => ?_
   refine ⟨m, κ, hn, fun y e q => ?_, fun y z d d' a b e => ?_, fun y d q => ?_⟩
   ·rcases look_put q with ⟨rfl, rfl⟩ | ⟨_, q⟩
    ·refine xEA hs fun m' hn' hva => ?_; (try clear hs)
     have e : m' = m := by
      refine xEEEAAA hn fun o es ep e1 e2 _ e3 => ?_; (try clear hn)
      refine xEEEAAA hn' fun o' es' ep' f1 f2 _ f3 => ?_; (try clear hn')
      rw [e1] at f1; cases f1
      rw [e2] at f2; cases f2
      funext z; rw [<- e3, <- f3]
     subst e
     exact ⟨v, hva, .val v⟩
    ·exact hv y e q
   ·rcases look_put a with ⟨_, e1⟩ | ⟨_, a⟩
    ·injection e1
    ·rcases look_put b with ⟨_, e1⟩ | ⟨_, b⟩
     ·injection e1
     ·exact hi y z d d' a b e
   ·rcases look_put q with ⟨_, e1⟩ | ⟨_, q⟩
    ·injection e1
    ·exact ho y d q }
noncomputable def c_fw2 : CS := .assign "prefix" (.lit (.str (ofString "at tab size")))
noncomputable def c_fw3 : CS := .ifS (.cmp .Gt (.call (.glob "len") (.cons (.var "w") .nil)) (.lit (.int 1))) (.cons (.assign "prefix" (.bin .Add (.var "prefix") (.lit (.str (ofString "s"))))) .nil) .nil
noncomputable def c_fwl : CE := .bin .Add (.var "prefix") (.lit (.str (ofString " ")))
noncomputable def c_fwe : CE := .call (.glob "str") (.cons (.item (.var "tup") (.lit (.int 0))) .nil)
structure FwAt (names : List (Str × NameKind)) (n : Str) (elt : Expr) (x it : Str) (sc : Scope) (b2 b3 : Stmt) (l e : Expr) (apos pos : Pos) (f : Str) : Prop where
 hn : isStore names "firsts" n = true
 hx : x = ofString "tup"
 hit : isNm "w" it = true
 hco : sc.isCoroutine = false
 hkind : sc.kind = .function
 hnames : ∀ y ∈ sc.names, ¬ y.2 = .cell /\ ¬ y.2 = .free
 hzero : sc.names.lookup (".0" : Str) = some .local
 htup : sc.names.lookup x = some .local
 helt : mE sc.names c_fwe elt = true
 hb2 : mS names c_fw2 b2 = true
 hb3 : mS names c_fw3 b3 = true
 hl : mE names c_fwl l = true
 he : mE names (.lit (.str (ofString ", "))) e = true
 hpos : (apos.endLine == pos.line) = true
 hf : isNm "firsts" f = true
noncomputable def f1M (names : List (Str × NameKind)) (b1 : Stmt) : Bool := wAsg b1 fun ts v _ => wName1 ts fun n => wGe v fun elt gs sc _ => w1 gs fun g => wName g.target fun x _ => wName g.iter fun it _ => w0 g.ifs (g.is_async == 0 &&
  isStore names "firsts" n && x == ofString "tup" && isNm "w" it && !sc.isCoroutine && sc.kind == .function && sc.names.all (fun y => y.2 != .cell && y.2 != .free) && sc.names.lookup (".0" : Str) == some .local && sc.names.lookup x == some .local && mE sc.names c_fwe elt)
inductive F1B (names : List (Str × NameKind)) (b1 : Stmt) : Prop
 | mk (n : Str) (p : Pos) (elt : Expr) (x : Str) (px : Pos) (it : Str) (ip : Pos) (sc : Scope) (gpos apos' : Pos) (hb : b1 = .Assign [.Name n p] (.GeneratorExp elt [⟨.Name x px, .Name it ip, [], 0⟩] sc gpos) apos')
  (h1 : isStore names "firsts" n = true) (h2 : x = ofString "tup") (h3 : isNm "w" it = true) (h4 : sc.isCoroutine = false) (h5 : sc.kind = .function) (h6 : ∀ y ∈ sc.names, ¬ y.2 = .cell /\ ¬ y.2 = .free) (h7 : sc.names.lookup (".0" : Str) = some .local) (h8 : sc.names.lookup x = some .local) (h9 : mE sc.names c_fwe elt = true) : F1B names b1
theorem f1M_inv (h : f1M names b1 = true) : F1B names b1 := by
 refine wAsg_E h fun ts v p1 g1 => ?_
 refine wName1_E g1 fun n p g2 => ?_
 refine wGe_E g2 fun elt gs sc gpos g3 => ?_
 refine w1_E g3 fun z1q g4 => ?_; obtain ⟨gt, gi, gf, ga⟩ := z1q
 refine xEEA (wName_inv g4) fun x px k1 g5 => ?_
 refine xEEA (wName_inv g5) fun it ip k2 g6 => ?_
 refine xA (w0_inv g6) fun k3 g7 => ?_
 refine an10 g7 fun z1 h1 h2 h3 h4 h5 h6 h7 h8 h9 => ?_
 exact ⟨_, _, _, _, _, _, _, _, _, _, by exact rwG (show gt = _ from k1) (rwG (show gi = _ from k2) (rwG (show gf = _ from k3) (rwG (show ga = _ from eq_of_beq z1) rfl))),
  h1, eq_of_beq h2, h3, not_t h4, eq_of_beq h5, fun y hy => ⟨bne_iff_ne.mp (and3 (all_eq_true.mp h6 y hy)).1, bne_iff_ne.mp (and3 (all_eq_true.mp h6 y hy)).2⟩, eq_of_beq h7, eq_of_beq h8, h9⟩
noncomputable def f4M (names : List (Str × NameKind)) (b4 : Stmt) : Bool := wRet b4 fun ro _ => wSome ro fun rv => wBin rv fun l op r _ => wCall r fun cf as ks pos => w0 ks (w1 as fun a1 => wName a1 fun f _ => wAtt cf fun e nm apos => op == .Add &&
  nm == ofString "join" && mE names c_fwl l && mE names (.lit (.str (ofString ", "))) e && apos.endLine == pos.line && isNm "firsts" f && notSuper e)
theorem f4M_inv (h : f4M names b4 = true) : ∃ l e apos f fp pos bpos rpos, b4 = .Return (some (.BinOp l .Add (.Call (.Attribute e (ofString "join") apos) [.Name f fp] [] pos) bpos)) rpos /\ mE names c_fwl l = true /\ mE names (.lit (.str (ofString ", "))) e = true /\ (apos.endLine == pos.line) = true /\ isNm "firsts" f = true /\ notSuper e = true := by
 refine wRet_E h fun ro rpos g1 => ?_
 refine wSome_E g1 fun rv g2 => ?_
 refine wBin_E g2 fun l op r bpos g3 => ?_
 refine wCall_E g3 fun cf as ks pos g4 => ?_
 refine w0_E g4 fun g5 => ?_
 refine w1_E g5 fun a1 g6 => ?_
 refine wName_E g6 fun f fp g7 => ?_
 refine wAtt_E g7 fun e nm apos g8 => ?_
 refine an7 g8 fun z1 z2 h1 h2 h3 h4 h5 => ?_
 exact ⟨_, _, _, _, _, _, _, _, by exact rwG (eq_of_beq z1) (rwG (eq_of_beq z2) rfl), h1, h2, h3, h4, h5⟩
inductive FwB (names : List (Str × NameKind)) (b : List Stmt) : Prop
 | mk (n : Str) (p : Pos) (elt : Expr) (x : Str) (px : Pos) (it : Str) (ip : Pos) (sc : Scope) (gpos apos' : Pos) (b2 b3 : Stmt) (l e : Expr) (apos : Pos) (f : Str) (fp pos bpos rpos : Pos)
  (hb : b = .Assign [.Name n p] (.GeneratorExp elt [⟨.Name x px, .Name it ip, [], 0⟩] sc gpos) apos' :: b2 :: b3 :: [.Return (some (.BinOp l .Add (.Call (.Attribute e (ofString "join") apos) [.Name f fp] [] pos) bpos)) rpos]) (F : FwAt names n elt x it sc b2 b3 l e apos pos f) (hs : notSuper e = true) : FwB names b
noncomputable def fwM (names : List (Str × NameKind)) (b : List Stmt) : Bool := wCons b fun b1 r => w3 r fun b2 b3 b4 => f1M names b1 && mS names c_fw2 b2 && mS names c_fw3 b3 && f4M names b4
theorem fwM_inv (h : fwM names b = true) : FwB names b := by
 refine wCons_E h fun b1 r g1 => ?_
 refine w3_E g1 fun b2 b3 b4 g2 => ?_
 refine an4 g2 fun z1 z2 z3 z4 => ?_
 obtain ⟨n, p, elt, x, px, it, ip, sc, gpos, apos', rfl, h1, h2, h3, h4, h5, h6, h7, h8, h9⟩ := f1M_inv z1
 obtain ⟨l, e, apos, f, fp, pos, bpos, rpos, rfl, k1, k2, k3, k4, k5⟩ := f4M_inv z4
 exact ⟨_, _, _, _, _, _, _, _, _, _, _, _, _, _, _, _, _, _, _, _, rfl, ⟨h1, h2, h3, h4, h5, h6, h7, h8, h9, z2, z3, k1, k2, k3, k4⟩, k5⟩
theorem f_fw (X : (KK P).In hT) : FnAt hT 128 (fdOf (KK P) 128) (bodyOf (fdOf (KK P) 128)) ["w"] := fnAt_of X (by kernel_rfl) fun vs h => by
 apply xEq1L (len1 h); intro a
 kernel_rfl
theorem m_fw (P : Params) : fwM (fdOf (KK P) 128).scope.names (bodyOf (fdOf (KK P) 128)) = true := by kernel_rfl
theorem k_fw (P : Params) : keepIn (KK P) (.ref 128) = true := by kernel_rfl
theorem code_fw (P : Params) : (fdOf (KK P) 128).code = .ref 127 := by kernel_rfl
theorem cells_fw (P : Params) : ((fdOf (KK P) 128).scope.names.all fun y => y.2 != .cell) = true := by kernel_rfl
structure Wd (w : World) (hT : Heap) : Prop where
 base : Base (KK w.params) w hT tb
 tabT : hT.get? 123 = none
 bmod : ∃ mg bm ob, BMod hT mainGlobals mg bm ob
structure Sg (s : Shared) : Prop where
 tab : Tab 127 123 s.heap
 bare : AllBare s.gens
structure KG (s s' : Shared) : Prop where
 heap : ∀ b o, b ≠ 123 -> s.heap.get? b = some o -> s'.heap.get? b = some o
 sg : Sg s'
 os : s'.os = s.os
theorem kgens (k : Keeps s s') : s'.gens = s.gens /\ s'.os = s.os := by obtain ⟨h, t, rfl, _⟩ := k; exact ⟨rfl, rfl⟩
theorem Sg.keeps (g : Sg s) (k : Keeps s s') : Sg s' := ⟨g.tab.keeps (kh k), by refine rwG ((kgens k).1) ?_; exact g.bare⟩
theorem KG.of (g : Sg s) (k : Keeps s s') : KG s s' := ⟨fun b o _ e => kh k b o e, g.keeps k, (kgens k).2⟩
theorem KG.trans (a : KG s s') (b : KG s' s'') : KG s s'' := ⟨fun x o hx e => b.heap x o hx (a.heap x o hx e), b.sg, b.os.trans a.os⟩
noncomputable def fwP (n : Nat) : Str := if n > 1 then ofString "at tab size" ++ ofString "s" else ofString "at tab size"
noncomputable def numT (t : Nat) : Str := ofString (toString (t : Int))
noncomputable def fwS (ts : List Nat) : Str := (fwP ts.length ++ ofString " ") ++ Txt.join (ofString ", ") (ts.map numT)
noncomputable def witD (g h : Nat -> D) (t : Nat) : D := .tup [.int (t : Int), g t, h t]
theorem q_str {t : Nat} (h : t <= 1000) : fnD (.type "str") [.int (t : Int)] = some (.str (numT t)) := by
 show (if smallB (t : Int) = true then some (D.str (ofString (toString (t : Int)))) else none) = _
 refine rwG (if_pos (smallN h)) ?_
 rfl
theorem item_tup0 : itemD (.tup (d :: ds)) (.int 0) = some d := by
 show (if smallB 0 = true then atL (d :: ds) 0 else none) = _
 refine rwG (if_pos (by decide)) ?_
 unfold atL
 refine rwG (seqIndex_of (by decide) (by simp)) ?_
 rfl
theorem w_fwe (ht : t <= 1000) (hρ : ρ.lookup "tup" = some (.v (witD g h t))) : evW (cx tb U) ρ c_fwe fun d => d = .str (numT t) := by
 unfold c_fwe
 (ktr_room; repeat (simp only [hρ, witD]; ktr_room))
 exact rwG item_tup0 (rwG ask_some (rwG (q_str ht) (rwG ask_some rfl)))
theorem numT_len (t : Nat) (h : t <= 900) : (numT t).length <= 1000 := by
 have := len_str_of_int (t : Int)
 have e : ((t : Int)).natAbs = t := Int.natAbs_natCast t
 rw [e] at this
 unfold numT
 lia
theorem hT_none (O : Ok hT X s) (h : s.heap.get? b = none) : hT.get? b = none := by
 cases q : hT.get? b with
 | none => rfl
 | some o => exact clash h (O.base b o q)
theorem fw_elt (W : Wd w hT) {σ u : Shared} {code : Value} {C : Addr} {A' : Around} {g h : Nat -> D} {t : Nat} {v : Value} {m₂ : Str -> Option Value} (hR : Room 0 A') (S : St w.params hT env X₀ X ρ σ.heap)
  (hTab : Tab 127 123 σ.heap) (hk : sc.kind = .function) (hnm : ∀ y ∈ sc.names, ¬ y.2 = .cell /\ ¬ y.2 = .free) (htup : sc.names.lookup (ofString "tup") = some .local) (hm : mE sc.names c_fwe elt = true) (ht : t <= 1000)
  (hn : u.heap.Ns C m₂) (hv : m₂ (ofString "tup") = some v) (hC : σ.heap.get? C = none) (keep : ∀ b o, b ≠ 123 -> b ≠ env.locals -> σ.heap.get? b = some o -> u.heap.get? b = some o) (r : Rd w.params σ.heap X (witD g h t) v) :
  wpAny (model prog w) A' (eval elt (genEnv sc [] C code builtinsNs env)) (fun y s₃ => (∃ tk, y = .str (numT t) tk) /\ Keeps u s₃) E u := by
 have C' := cx_ok (prog := prog) (U := []) W.base hR (fun _ _ q => nomatch q)
 have hbase : ∀ a o, hT.get? a = some o -> u.heap.get? a = some o := fun a o e => keep a o (fun q => by rw [q] at e; exact clash W.tabT e) (fun q => by rw [q] at e; exact clash (S.off _ S.loc) e) (S.base a o e)
 have r' : Rd w.params u.heap (fun b => b = C) (witD g h t) v := Rd.moveC (fun a o hx hne e => keep a o (fun q => by
   refine xEAA hTab fun ps _ hp _ => ?_; (try clear hTab)
   rw [q, hp] at e
   obtain rfl := osi e
   exact hne ps rfl) (fun q => hx (q ▸ S.loc)) e) (fun a o e q => by rw [q] at e; exact clash hC e) r
 have S' : St w.params hT (genEnv sc [] C code builtinsNs env) (fun _ => False) (fun b => b = C) [("tup", .v (witD g h t))] u.heap := by
  refine ⟨hbase, fun a q => q ▸ (hT_none (S.ok (s := σ)) hC), fun a q => ?_, fun _ f => f.elim, hk, S.glob, rfl, rfl, fun f => f, fun n c e => (by injection e), fun n q => ?_, fun n c e => (by injection e), fun n n' c e => (by injection e), m₂, fun _ => 0, hn, fun x e q => ?_, fun x y d d' q => ?_, fun x d q => ?_⟩
  ·obtain ⟨o, _, _, e, _⟩ := hn; exact ⟨o, q ▸ e⟩
  ·rcases q with q | q
   ·exact absurd rfl (hnm _ (mem_of_lookup q)).1
   ·exact absurd rfl (hnm _ (mem_of_lookup q)).2
  ·rcases look_put q with ⟨rfl, rfl⟩ | ⟨_, q⟩
   ·exact ⟨v, .inl ⟨htup, hv⟩, r'⟩
   ·injection q
  ·rcases look_put q with ⟨_, e⟩ | ⟨_, q⟩
   ·injection e
   ·injection q
  ·rcases look_put q with ⟨_, e⟩ | ⟨_, q⟩
   ·injection e
   ·injection q
 refine noE ((evA C' c_fwe).1.use hm rfl S' (w_fwe ht rfl) fun y s' d k _ hK hr _ => ⟨?_, k⟩)
 subst hK
 refine (hr.rd rfl).strE fun tk => ?_
 exact ⟨tk, rfl⟩
theorem w_fw2 {K : Fl -> Ro -> Prop} (h : K .next (("prefix", .v (.str (ofString "at tab size"))) :: ρ)) : exW (cx tb U) c_fw2 ρ K := by
 unfold c_fw2
 ktr_room
 exact h
theorem w_fw3 {K : Fl -> Ro -> Prop} (h1 : ρ.lookup "w" = some (.v (.list ds))) (h2 : ρ.lookup "prefix" = some (.v (.str (ofString "at tab size")))) (hl : ds.length <= 1000)
  (h : ∀ ρ', ρ'.lookup "prefix" = some (.v (.str (fwP ds.length))) -> (∀ x, x ≠ "prefix" -> ρ'.lookup x = ρ.lookup x) -> K .next ρ') : exW (cx tb U) c_fw3 ρ K := by
 unfold c_fw3
 (ktr_room; repeat (simp only [h1, h2]; ktr_room))
 refine ask_of (q_lenL (by refine rwG sizeLine_eq ?_; lia)) ?_
 refine ask_of q_gtI ?_
 refine ⟨fun e => ?_, fun e => ?_⟩
 ·have e : ds.length > 1 := by have := of_decide_eq_true e; lia
  refine ask_of (q_addS (by decide)) ?_
  refine h _ (by refine rwG look_eq ?_; unfold fwP; exact rwG (if_pos e) rfl) fun x hx => look_ne (beq_eq_false_iff_ne.mpr hx)
 ·have e : ¬ ds.length > 1 := by have := of_decide_eq_false e; lia
  refine h _ (by refine rwG h2 ?_; unfold fwP; exact rwG (if_neg e) rfl) fun x _ => rfl
theorem w_fwl (h2 : ρ.lookup "prefix" = some (.v (.str (fwP n)))) : evW (cx tb U) ρ c_fwl fun d => d = .str (fwP n ++ ofString " ") := by
 unfold c_fwl
 (ktr_room; repeat (simp only [h2]; ktr_room))
 rw [q_addS ?_, ask_some]
 unfold fwP
 split <;> decide
theorem look1 {x y : String} (q : [(x, Ent.v e)].lookup y = some (.own d)) : False := by
 rcases look_put q with ⟨_, e⟩ | ⟨_, q⟩
 ·injection e
 ·injection q
theorem look_v {ρ : Ro} (q : ((x, Ent.v e) :: ρ).lookup y = some (.own d)) : ρ.lookup y = some (.own d) := by
 rcases look_put q with ⟨_, e⟩ | ⟨_, q⟩
 ·injection e
 ·exact q
theorem kb_move {Lx K a : Addr} (k : KB N env X₀ X σ σ') (x : GenL prog w A Lx K a n F σ) (h : ∀ b o, b ≠ Lx -> σ.heap.get? b = some o -> σ'.heap.get? b = some o) : GenL prog w A Lx K a n F σ' := by
 refine xEEA k fun h' tk z1q _ => ?_; (try clear k); obtain rfl := z1q
 exact x.move h
theorem kb_gens (k : KB N env X₀ X σ σ') : σ'.gens = σ.gens /\ σ'.os = σ.os := by
 apply xEEAq1L k; intro h' tk _; (try clear k)
 exact ⟨rfl, rfl⟩
theorem kb_keep {X' X'' : Addr -> Prop} (kb : KB N env (fun b => X' b /\ b ≠ env.locals) X'' σ σ') (hX : ∀ b, X'' b -> X' b \/ σ.heap.get? b = none) (b : Addr) (o : Obj) (hb : b ≠ env.locals) (e : σ.heap.get? b = some o) : σ'.heap.get? b = some o :=
 kb.heap b o (by
  by_cases q : X' b
  ·exact .inr ⟨q, hb⟩
  ·refine .inl fun z => ?_
   rcases hX b z with z | z
   ·exact q z
   ·exact clash z e) e
theorem kp_move {Lx K a : Addr} (k : Keeps σ σ') (x : GenL prog w A Lx K a n F σ) : GenL prog w A Lx K a n F σ' := by
 apply xEEAq1L k; intro h' tk hk; (try clear k)
 exact x.move fun b o _ e => hk b o e
theorem texts_ok {ts : List Nat} (hl : ts.length <= 100) (ht : ∀ t ∈ ts, t <= 900) : JoinOk (ofString ", ") (ts.map numT) = true /\ (Txt.join (ofString ", ") (ts.map numT)).length <= 200000 :=
 join_small (by rw [length_map]; exact hl) (fun u hu => by
   apply xEAq2R (mem_map.mp hu); intro t hm
   exact numT_len t (ht t hm)) (by decide)
noncomputable abbrev fwF (ts : List Nat) : Nat -> Value -> Prop := fun i y => ∃ t tk, ts[i]? = some t /\ y = .str (numT t) tk
theorem fw_join {a L K : Addr} (hl : ts.length <= 100) (ht : ∀ t ∈ ts, t <= 900) (hlen : n = ts.length) (hn : s.heap.Ns L m) (hLK : L <= K) (G : AllBare s.gens) (X : Gen prog w A K a n (fwF ts) s)
  (hQ : ∀ s' t', AllBare s'.gens -> s'.os = s.os -> (∀ b o, b <= K -> s.heap.get? b = some o -> s'.heap.get? b = some o) -> Q (.str (Txt.join (ofString ", ") (ts.map numT)) t') s') : wpAny (model prog w) A (call (.builtin "str.join") [.str (ofString ", ") t, .ref a]) Q E s := by
 subst hlen
 have ejoin : (List.range ts.length).map (fun j => numT (ts.getD j 0)) = ts.map numT := by
  rw [show (fun j => numT (ts.getD j 0)) = numT ∘ fun j => ts.getD j 0 from rfl, <- map_map, range_getD]
 refine gen_join hn hLK G X (fun j => numT (ts.getD j 0)) (fun j v ⟨t, tk, hj, e⟩ => ⟨tk, by refine rwG e (rwG (List.getD_eq_getElem?_getD) (rwG hj ?_)); rfl⟩) (by refine rwG ejoin ?_; exact (texts_ok hl ht).1) (Nat.le_trans hl (by decide)) fun s' t' gs' os' ks' => ?_
 refine rwG ejoin ?_
 exact hQ s' t' gs' os' ks'
theorem fw_add {ts : List Nat} (hl : ts.length <= 100) (ht : ∀ t ∈ ts, t <= 900) : (cx tb []).bin .Add (.str (fwP ts.length ++ ofString " ")) (.str (Txt.join (ofString ", ") (ts.map numT))) fun d => d = .str (fwS ts) := by
 have hfp : (fwP ts.length ++ ofString " ").length <= 20 := by unfold fwP; split <;> decide
 refine rwG x_bin ?_
 refine ask_of (q_addS (Nat.le_trans (Nat.add_le_add hfp (texts_ok hl ht).2) (by decide))) ?_
 rfl
theorem fw_ret (C' : CxOK prog w hT (cx tb []) A) {ρ : Ro} {apos pos bpos rpos fp : Pos} {f : Str} {a K : Addr} {n : Nat} {Q : Flow -> Shared -> Prop} (hl : ts.length <= 100) (ht : ∀ t ∈ ts, t <= 900) (hlen : n = ts.length)
  (hnames : env.scope.names = names) (hml : mE names c_fwl l = true) (hme : mE names (.lit (.str (ofString ", "))) e = true) (hap : (apos.endLine == pos.line) = true) (hmf : isNm "firsts" f = true) (hns : notSuper e = true)
  (S : St w.params hT env X₀ X ρ σ.heap) (hp : ρ.lookup "prefix" = some (.v (.str (fwP ts.length)))) (hf : ρ.lookup "firsts" = some (.v (.val (.ref a)))) (hK : env.locals <= K) (G : AllBare σ.gens) (x : GenL prog w A env.locals K a n (fwF ts) σ)
  (hb : ∀ b o, hT.get? b = some o -> b <= K)
  (hQ : ∀ s' t', AllBare s'.gens -> s'.os = σ.os -> (∀ b o, b <= K -> σ.heap.get? b = some o -> s'.heap.get? b = some o) -> Q (.ret (.str (fwS ts) t')) s') :
  wpAny (model prog w) A (execs [.Return (some (.BinOp l .Add (.Call (.Attribute e (ofString "join") apos) [.Name f fp] [] pos) bpos)) rpos] env) Q E σ := by
 refine wpAny_execs_cons (wpAny_Return_some (wpAny_BinOp ((evA C' c_fwl).1.strE hml rfl hnames S (w_fwl hp) fun t₂ σ₁ k₁ S₁ => ?_)))
 rw [arm_eval_Call, base_of hns]
 refine wpAny_bind ((evA C' (.lit (.str (ofString ", ")))).1.strE hme rfl hnames S₁ rfl fun t₁ σ₂ k₂ S₂ => wpAny_bind (wpAny_standAt ?_))
 have hargs : mL names (.cons (.var "firsts") .nil) [.Name f fp] = true := Bool.and_eq_true_iff.mpr ⟨Bool.and_eq_true_iff.mpr ⟨hmf, rfl⟩, rfl⟩
 have hform : methodCallForm ([Expr.Name f fp].length + ([] : List Keyword).length) (backTo pos (starEach [.Name f fp] env)) (backToKw pos (keywordEach [] env)) = true := by
  unfold methodCallForm
  refine rwG ((plain_args (env := env) (pos := pos) hargs).2.1) ?_
  rfl
 have hpos : methodCallPos true e env apos pos = pure pos := by unfold methodCallPos; simp [hap]
 unfold methodCall
 refine rwG hform ?_
 refine wpAny_bind (wpAny_holding (GM.join (wpAny_bind (wpAny_of_eq hpos ?_))))
 refine Calls.callWith_builtin (plain_args hargs).1 (noE (args_use (esA C' (.cons (.var "firsts") .nil)).1 hargs hnames S₂ (K := fun ds => ds = [.val (.ref a)]) (by dsimp only [evsW, evW]; exact rwG hf rfl) fun as σ₃ ds k₃ S₃ hK₃ hrs₃ => ?_))
 subst hK₃
 refine hrs₃.consE fun _ _ ra rb => ?_
 refine rb.nilE (ra.valE ?_)
 have k : Keeps σ σ₃ := kt k₁ (kt k₂ k₃)
 refine xEEA S₃.vars fun mL _ hnL _ => ?_
 refine fw_join hl ht hlen hnL hK (by refine rwG ((kgens k).1) ?_; exact G) (kp_move k x).gen fun s' t' gs' os' ks' => ?_
 have O' : Ok hT (fun _ => False) s' := ⟨fun b o e => ks' b o (hb b o e) (S₃.base b o e), fun _ f => f.elim, fun _ f => f.elim⟩
 refine noE (wpAny_mono (C'.bin .Add _ _ _ (fun _ => False) s' _ _ O' (fw_add hl ht) (.inl (.str _ t₂)) (.str _ t')) (fun v' s'' q => ?_) (fun _ _ f => f))
 refine xAEAA q fun kf d z1q hrf _ => ?_; (try clear q); obtain rfl := z1q
 refine hrf.strE fun t₃ => ?_
 exact hQ s'' t₃ (by refine rwG ((kgens kf).1) ?_; exact gs') ((kgens kf).2.trans (os'.trans (kgens k).2)) fun b o h e => kh kf b o (ks' b o h (kh k b o e))
theorem fw_wp (W : Wd w hT) (hA : Room 6 A) {X : Addr -> Prop} {s : Shared} {v : Value} {ts : List Nat} {g h : Nat -> D} {Q : Value -> Shared -> Prop} (O : Ok hT X s) (hPX : ¬ X 123) (G : Sg s) (r : Rd w.params s.heap X (.list (ts.map (witD g h))) v) (hl : ts.length <= 100) (ht : ∀ t ∈ ts, t <= 900)
  (hQ : ∀ s' t, KG s s' -> Q (.str (fwS ts) t) s') : wpAny (model prog w) A (call (.ref 128) [v]) Q E s := by
 have XK := W.base.inK
 refine enter_plain (κ := fun _ => 0) (X₀ := X) (es := [.v (.list (ts.map (witD g h)))]) (f_fw XK) W.base.nolimit hA (cells_fw w.params) O (fun _ x => x) rfl rfl (fun i p e u hp he hu => ?_) (fun x y d d' q => (look1 q).elim) (fun x d q => (look1 q).elim) fun env A₁ s₁ X' hLn hA' _ hcells _ hcode hnames k₁ S g₁ hsub hvals => ?_
 ·rcases i with _ | i
  ·obtain rfl := osi he; obtain rfl := osi hu; exact r
  ·injection he
 obtain ⟨n, p, elt, x, px, it, ip, sc, gpos, apos', b2, b3, l, e, apos, f, fp, pos, bpos, rpos, hb, FA, hns⟩ := fwM_inv (m_fw w.params)
 refine rwG hb ?_
 rw [code_fw w.params] at hcode
 have C' := cx_ok (prog := prog) (U := []) W.base hA' (fun _ _ q => nomatch q)
 have hPX' : ¬ X' 123 := fun q => by
  rcases g₁ _ q with q | q
  ·exact hPX q
  ·refine xEAA G.tab fun ps _ hp _ => ?_
   exact clash q hp
 have S₁ := S.rebase hcells fun x d q => look1 q
 have hLX : X' env.locals := S.loc
 have G₁ := G.keeps k₁
 refine xEEE W.bmod fun mg bm ob BM => ?_
 obtain rfl := FA.hx
 refine wpAny_execs_cons (wpAny_Assign_Name (gen_exp (c := 127) (P := 123) (Lx := env.locals) (mg := mg) (bm := bm) (ob := ob) hcode hA'.hh FA.hco (closureFor_none fun y hy => (FA.hnames y hy).2) (fun y hy => (FA.hnames y hy).1) FA.hzero FA.htup FA.hkind (by have := hA'.depth; lia) ?_ (fun x => rfl)) (no_swap rfl))
 have hwm : mE (fdOf (KK w.params) 128).scope.names (.var "w") (.Name it ip) = true := FA.hit
 refine (evA C' (.var "w")).1.listE hwm rfl hnames S₁ rfl fun a vs m σ k₂ S₂ hx ho hrs _ => ?_
 have hlen : vs.size = ts.length := by have := hrs.length; simpa using this.symm
 have lt : ∀ {b : Addr} {o : Obj}, σ.heap.get? b = some o -> b < σ.heap.objs.size := fun e => Heap.lt_size e
 refine xE (S₂.live _ hLX) fun oL eL => ?_
 refine ⟨a, vs, fwF ts, rfl, ⟨_, ho, rfl, m, rfl⟩, (G₁.keeps k₂).tab, (G₁.keeps k₂).bare, W.base.nolimit.keeps S₂.base, S₂.glob ▸ BM.keeps S₂.base, lt eL, fun q => hx (q ▸ hLX), ?_, fun code C A' E' i v' u m₂ hh hD hU hiv hn hm hC hkeep => ?_, fun ga s₅ hk₅ T₅ B₅ os₅ X₅ => ?_⟩
 ·intro q
  refine xEA W.base.nolimit fun mc z1q _ => ?_; obtain ⟨o, _, _, e1, _⟩ := z1q
  rw [q] at e1; exact clash (S₂.off _ hLX) e1
 ·have hi : i < (ts.map (witD g h)).length := by rw [length_map, <- hlen]; exact (Array.getElem?_eq_some_iff.mp hiv).1
  rw [length_map] at hi
  obtain ⟨t, hti⟩ : ∃ t, ts[i]? = some t := ⟨_, List.getElem?_eq_getElem hi⟩
  have hrd : Rd w.params σ.heap X' (witD g h t) v' := hrs.at_ (i := i) (by refine rwG (List.getElem?_map) (rwG hti ?_); rfl) (by simpa using hiv)
  have hR0 : Room 0 A' := ⟨hh, by have := hA'.depth; lia, by have := hA'.units; lia⟩
  exact wpAny_mono (fw_elt (E := E') W hR0 S₂ (G₁.keeps k₂).tab FA.hkind FA.hnames FA.htup FA.helt (Nat.le_trans (ht _ (List.mem_of_getElem? hti)) (by decide)) hn hm hC (fun b o h1 h2 e => hkeep b o h1 h2 e) hrd) (fun y s₃ ⟨⟨tk, e⟩, k⟩ => ⟨⟨_, tk, hti, e⟩, k⟩) (fun _ _ e => e)
 ·have S₅ := S₂.but (let ⟨ps, _, hp, _⟩ := (G₁.keeps k₂).tab; ⟨_, ps, hp, rfl⟩) hPX' W.tabT hk₅
  refine noE (store_v (N := fun _ => False) (fun _ q => q.elim) FA.hn hnames S₅ (kr _) (.val (.ref ga)) fun σ₆ kb₆ S₆ => ?_)
  have k₆ := kb_keep kb₆ fun b x => .inl x
  have X₆ := kb_move kb₆ X₅ k₆
  refine ex_next C' (P := fun ρ => ρ = ("prefix", .v (.str (ofString "at tab size"))) :: ("firsts", .v (.val (.ref ga))) :: [("w", .v (.list (ts.map (witD g h))))]) FA.hb2 hnames S₆ (w_fw2 ⟨rfl, rfl⟩) fun σ₇ ρ₇ X₇ hρ₇ S₇ kb₇ g₇ => ?_
  subst hρ₇
  have k₇ := kb_keep kb₇ fun b x => .inl x
  have X₇' := kb_move kb₇ X₆ k₇
  have S₇' := S₇.shrink (Y := X') hcells (fun x d q => look1 (look_v (look_v q))) hLX fun a x => x.1
  refine ex_next C' (P := fun ρ => ρ.lookup "prefix" = some (.v (.str (fwP ts.length))) /\ ρ.lookup "firsts" = some (.v (.val (.ref ga)))) FA.hb3 hnames S₇' (w_fw3 (ds := ts.map (witD g h)) rfl rfl (by rw [length_map]; lia) fun ρ' h1 h2 => ⟨rfl, by rw [length_map] at h1; exact h1, by refine rwG (h2 _ (by decide)) ?_; rfl⟩) fun σ₈ ρ₈ X₈ hp₈ S₈ kb₈ g₈ => ?_
  have k₈ := kb_keep kb₈ fun b x => .inl x.2
  have X₈' := kb_move kb₈ X₇' k₈
  have gg := (kb_gens kb₈).1.trans ((kb_gens kb₇).1.trans (kb_gens kb₆).1)
  have go := (kb_gens kb₈).2.trans ((kb_gens kb₇).2.trans ((kb_gens kb₆).2.trans (os₅.trans ((kgens k₂).2.trans (kgens k₁).2))))
  refine fw_ret C' hl ht hlen hnames FA.hl FA.he FA.hpos FA.hf hns S₈ hp₈.1 hp₈.2 (Nat.le_sub_one_of_lt (lt eL)) (by refine rwG gg ?_; exact B₅) X₈' (fun b o e => Nat.le_sub_one_of_lt (lt (S₂.base b o e))) fun s' t' gs' os' ks' => hQ s' t' ?_
  have chain : ∀ b o, b ≠ env.locals -> b < σ.heap.objs.size -> s₅.heap.get? b = some o -> s'.heap.get? b = some o := fun b o hb hlt e => ks' b o (Nat.le_sub_one_of_lt hlt) (k₈ b o hb (k₇ b o hb (k₆ b o hb e)))
  have nl : ∀ {b : Addr} {o : Obj}, s.heap.get? b = some o -> b ≠ env.locals /\ b < σ.heap.objs.size := fun {b o} e => ⟨(fun q => by rw [q] at e; exact clash hLn e), lt (kh k₂ _ o (kh k₁ _ o e))⟩
  have ch2 : ∀ {b : Addr} {o : Obj}, s.heap.get? b = some o -> ∀ o', s₅.heap.get? b = some o' -> s'.heap.get? b = some o' := fun e o' e' => chain _ o' (nl e).1 (nl e).2 e'
  refine ⟨fun b o hb e => ch2 e o (hk₅ b o hb (kh k₂ b o (kh k₁ b o e))), ⟨?_, gs'⟩, os'.trans go⟩
  obtain ⟨o1, l1⟩ : ∃ o, s.heap.get? 127 = some o := by
   refine xEA G.tab fun _ z1q _ => ?_; obtain ⟨o, _, _, _, _, _, _, _, _, e, _⟩ := z1q
   exact ⟨o, e⟩
  obtain ⟨o2, l2⟩ : ∃ o, s.heap.get? 123 = some o := by
   refine xEAA G.tab fun _ _ e _ => ?_
   exact ⟨_, e⟩
  exact T₅.keep2 (ch2 l1) (ch2 l2)
theorem fw_ok (W : Wd w hT) (hA : Room 6 A) (O : Ok hT X s) (hPX : ¬ X 123) (G : Sg s) (r : Rd w.params s.heap X (.list (ts.map (witD g h))) v) (hl : ts.length <= 100) (ht : ∀ t ∈ ts, t <= 900) :
  wpAny (model prog w) A (call (.ref 128) [v]) (fun r s' => KG s s' /\ ∃ t, r = .str (fwS ts) t) FF s := fw_wp W hA O hPX G r hl ht fun _ t k => ⟨k, t, rfl⟩
theorem ns_some_of {K : Frag} (X : K.In h) (G : h.Ns N mg) (e : nsIn K N n = some (some v)) : mg n = some v := by
 refine xEEEAAA G fun o es ep ho hd _ hf => ?_; (try clear G)
 unfold nsIn at e
 split at e
 ·rename_i c d es' n' sl q
  have := X _ _ q
  rw [ho] at this
  obtain rfl := osi this
  injection hd with hd; subst hd
  split at e
  ·rename_i en he
   cases e
   rw [<- hf]
   unfold nsFind findBy
   refine rwG (Eq.symm (Array.find?_toList)) (rwG he ?_)
   rfl
  ·split at e <;> cases e
 ·injection e
noncomputable abbrev excMro : List Value := [.type "Exception", .type "BaseException", .type "object"]
noncomputable def nnNames : List (Str × Option Value) := [("__init__", some (.ref 28)), ("get_lineno", some (.ref 35)), ("get_msg", some (.ref 42)), ("get_line", some (.ref 49)), ("__setattr__", none), ("__getattribute__", none), ("__getattr__", none), ("lineno", none), ("msg", none), ("line", none)]
noncomputable def vCd (d : Data) (k : ClassData -> Bool) : Bool := match d with
 | .cls cd => k cd
 | _ => false
noncomputable def w6 (l : List (Option Value)) (k : Option Value -> Bool) : Bool := wCons l fun _ l => wCons l fun _ l => wCons l fun _ l => w3 l fun _ e _ => k e
theorem w6_inv {C : Prop} (h : w6 l k = true) (c : ∀ a b d e f g, l = [a, b, d, e, f, g] -> k f = true -> C) : C :=
 xEEA (wCons_inv h) fun a l1 e1 h => xEEA (wCons_inv h) fun b l2 e2 h => xEEA (wCons_inv h) fun d l3 e3 h => xEEEA (w3_inv h) fun e f g e4 h => c a b d e f g (by exact rwG e1 (rwG e2 (rwG e3 (rwG e4 rfl)))) h
noncomputable def nnIn (K : Frag) : Bool := match K.lookup 52 with
 | some o => o.cls == .type "type" && w6 o.slots.toList (fun e => e == some (.builtin "Exception.__new__")) &&
  vCd o.data fun cd => cd.mro == .ref 52 :: excMro && !cd.hasDel && cd.hasDict && nsOkIn K cd.ns && nnNames.all fun p => nsIn K cd.ns p.1 == some p.2
 | none => false
theorem nn_in (P : Params) : nnIn (KK P) = true := by kernel_rfl
structure NnAt (h : Heap) (nm q : Str) (N : Addr) (bs : List Value) (sn : List Str) (sub : List Value) (ab : Bool) (col : Option Bool) (dd : Option Addr) (k0 k1 k2 k3 k5 : Option Value) (mN : Str -> Option Value) : Prop where
 cls : h.get? 52 = some (excClassObj nm q 52 N bs excMro true sn sub ab col dd k0 k1 k2 k3 k5 "Exception.__new__")
 ns : h.Ns N mN
 names : ∀ p ∈ nnNames, mN p.1 = p.2
noncomputable def Nn (h : Heap) : Prop := ∃ nm q N bs sn sub ab col dd k0 k1 k2 k3 k5 mN, NnAt h nm q N bs sn sub ab col dd k0 k1 k2 k3 k5 mN
theorem nn_of {K : Frag} {h : Heap} (X : K.In h) (q : nnIn K = true) : Nn h := by
 unfold nnIn at q
 cases ho : K.lookup 52 with
 | none => rw [ho] at q; exact nomatch q
 | some o =>
  rw [ho] at q
  obtain ⟨cls, dd, data, sl⟩ := o
  refine an3 q fun q0 q1 q2 => ?_
  clear q
  obtain rfl : cls = .type "type" := eq_of_beq q0
  cases data with
  | cls cd =>
   obtain ⟨nm, bs, mro, ns, qn, hd, sn, sub, ab, col, del⟩ := cd
   refine an5 q2 fun hm hdel hdc hok hni => w6_inv q1 fun k0 k1 k2 k3 e k5 hs he => ?_
   clear q0 q1 q2
   obtain rfl : mro = .ref 52 :: excMro := eq_of_beq hm
   obtain rfl : hd = true := hdc
   obtain rfl : del = false := not_t hdel
   obtain rfl : e = some (.builtin "Exception.__new__") := eq_of_beq he
   obtain ⟨sl⟩ := sl
   obtain rfl : sl = [k0, k1, k2, k3, some (.builtin "Exception.__new__"), k5] := hs
   have G : h.Ns ns (h.nsMap ns) := .of_isNs (isNs_of_in X hok)
   refine ⟨nm, qn, ns, bs, sn, sub, ab, col, dd, k0, k1, k2, k3, k5, _, X _ _ ho, G, fun p hp => ?_⟩
   have := eq_of_beq (all_eq_true.mp hni p hp)
   cases e : p.2 with
   | none => rw [e] at this; exact ns_none_of X G this
   | some v => rw [e] at this; exact ns_some_of X G this
  | _ => exact nomatch q2
theorem load_self (hk : env.scope.kind = .function) (hx : isNm x n = true) (hs : SelfAt env s.heap x v) (h : Q v s) : wpAny M A (eval (.Name n pos) env) Q E s := by
 refine xAA (nm_ok hx) fun z1q hd hc => ?_; obtain rfl := z1q
 refine xEA hs fun m hn hva => ?_; (try clear hs)
 rcases hva with ⟨hk', hmx⟩ | ⟨hk' | hk', cc, hcc, hcell⟩
 ·exact wpAny_Name (wpAny_loadName_local hk hk' hn hmx h) hd
 ·exact wpAny_Name (wpAny_loadName_cell hk hk' hcc hcell h) hd
 ·exact wpAny_Name (wpAny_loadName_free hk hk' hcc hcell h hc) hd
theorem nn_sa (P : Params) : findIn (KK P) (.ref 52) "__setattr__" = some (some (.builtin "object.__setattr__")) := by kernel_rfl
theorem nn_cls (P : Params) : ((clsIn (KK P) 52).map fun cd => (cd.mro, cd.hasDict)) = some (.ref 52 :: excMro, true) := by kernel_rfl
theorem nn_mro (P : Params) : ∃ cd, clsIn (KK P) 52 = some cd /\ cd.mro = .ref 52 :: excMro /\ cd.hasDict = true := by
 refine xEA (Option.map_eq_some_iff.mp (nn_cls P)) fun cd h1 h2 => ?_
 exact ⟨cd, h1, (Prod.mk.inj h2).1, (Prod.mk.inj h2).2⟩
theorem osa_exc (X : (KK P).In s.heap) (I : InstAt s.heap x ox 52 od) (hn : findIn (KK P) (.ref 52) name = some none)
  (h : wpAny (model prog w) A.in1 (Builtin.ObjectAttr.storeInOwnDict (.ref x) (.ref 52) (.str name tk) name v false)
   (fun fin s' => match fin with | .done f => R (.ok f) s' | .again c' => c'.quiet = true /\ codeAny (model prog w) A c' R s') (fun e s' => R (.error e) s') s) :
  codeAny (model prog w) A (.call (.builtin "object.__setattr__") ⟨[.ref x, .str name tk, v], []⟩) R s := by
 have SF := PySem.F.store_object
 have SE := PySem.F.store_Exception
 refine xEAA (nn_mro P) fun cd hc hm' hd' => ?_
 have ne : cd.mro.isEmpty = false := by refine rwG hm' ?_; rfl
 have sub : Looks (model prog w) s.heap (isInstance (.ref x) (.type "object")) true := I.type.andThen (looks_mroIn X (by unfold mroIn; rw [hc, Option.bind_some, if_neg (by refine rwG ne ?_; decide), hm']; rfl))
 refine codeAny_call_builtin SF.slot.plain SF.entry (@check_slot (model prog w) _ _ s "object.__setattr__" "object" "__setattr__" (.ref x) [.str name tk, v] [] _ SF.kind SF.split sub (SF.args (.ref x) (.str name tk) v) ?_)
 have hm : Looks (model prog w) s.heap (mroOf (.ref 52)) cd.mro := (looks_clsIn X hc).andThen .now
 rw [osa_eq, refuse_eq]
 refine wpAny_bind (wpAny_bind (I.type.here (wpAny_bind (hm.here ?_))))
 rw [hm', refuseLoop_ref, SE.passes]
 refine wpAny_pure (wpAny_bind (I.type.here (wpAny_bind ((looks_findIn X hn).here ?_))))
 exact wpAny_bind (wpAny_pure h)
theorem nsSet_raw (hp : M = model prog w) (hw : P = w.params) (hdx : s.heap.get? dx = some (dictOf es n)) (hl : W.getL name es = some none)
  (h : Q () { s with heap := s.heap.update dx (Obj.putName name (PyData.keyHash P name) (.str name s.toks) v), toks := s.toks + 1 }) : wpAny M A (nsSet dx name v) Q E s := by
 subst hp hw
 unfold nsSet
 refine wpAny_bind (wpAny_bind (wpAny_askSetting (wpAny_pure (wpAny_bind (wpAny_mkText (wpAny_bind (wpAny_loadPart hdx ?_)))))))
 have c : (!es.toArray.any (·.key.isStr name) && es.toArray.any (·.refKey)) = false := by
  unfold W.getL at hl
  split at hl
  ·cases hl
  ·split at hl
   ·injection hl
   ·rename_i z; rw [Bool.not_eq_true] at z; rw [any_toArray, any_toArray, z, Bool.and_false]
 show wpAny _ _ (if aRefKeyMayBeTheName name es.toArray = true then _ else _) _ _ _
 rw [aRefKeyMayBeTheName_at, c]
 exact wpAny_updatePart hdx h
theorem put_new {h : Heap} {v : Value} (hdx : h.get? dx = some (dictOf es n)) (hn : es.any (·.key.isStr name) = false) :
  ∃ n', (h.update dx (Obj.putName name (PyData.keyHash P name) (.str name tk) v)).get? dx = some (dictOf (es ++ [⟨PyData.keyHash P name, .str name tk, v⟩]) n') := by
 have hup := Heap.get?_update_self (h := h) (Obj.putName name (PyData.keyHash P name) (.str name tk) v) hdx (by rw [putName_dict]; rfl)
 rw [putName_dict, putL_new hn] at hup
 exact ⟨_, hup⟩
theorem nag_set1 (X : (KK w.params).In s.heap) (hx : s.heap.get? x = some ox) (hc : ox.cls = .ref 52) (hf : ∃ vs, ox.data = .fields vs) (hd : ox.dict = some dx) (hdx : s.heap.get? dx = some (dictOf es n))
  (hn : findIn (KK w.params) (.ref 52) name = some none) (hl : W.getL name es = some none) (hz : es.length <= 900)
  (h : Q () { s with heap := s.heap.update dx (Obj.putName name (PyData.keyHash w.params name) (.str name (s.toks + 1)) v), toks := s.toks + 1 + 1 }) : wpAny (model prog w) A (setAttr (.ref x) name v) Q E s := by
 have I : InstAt s.heap x ox 52 (some (dictOf es n)) := ⟨hx, hc, by obtain ⟨vs, q⟩ := hf; unfold notCls; exact rwG q rfl, by refine rwG hd ?_; exact hdx⟩
 refine set_plain X I (nn_sa _) (osa_exc (s := { s with toks := s.toks + 1 }) X I hn ?_)
 refine xEAA (nn_mro w.params) fun cd hc' _ hd' => ?_
 have hup := Heap.get?_update_self (h := s.heap) (Obj.putName name (PyData.keyHash w.params name) (.str name (s.toks + 1)) v) hdx (by rw [putName_dict]; rfl)
 rw [putName_dict] at hup
 refine wpAny_bind (wpAny_pure (wpAny_bind (wpAny_bind (wpAny_loadPart hx ?_))))
 refine rwG hc ?_
 refine wpAny_bind (looks_clsIn (M := model prog w) X hc' _ _ _ _ (fun _ _ e => e) ?_)
 refine rwG hd' (rwG hd ?_)
 refine wpAny_pure (a := some dx) (wpAny_bind (wpAny_pure (wpAny_bind (nsSet_raw rfl rfl hdx hl ?_))))
 refine wpAny_bind (wpAny_lookBehind hup (pastItsLine_dict ?_) (wpAny_pure h))
 have go : ∀ l : List DictEntry, (putL name (PyData.keyHash w.params name) (.str name (s.toks + 1)) v l).length <= l.length + 1 := by
  intro l
  induction l with
  | nil => simp [putL]
  | cons e r ih => unfold putL; split <;> simp <;> lia
 have := go es
 refine rwG size_toArray (rwG sizeLine_eq ?_); lia
theorem nag_set0 (X : (KK w.params).In s.heap) (hx : s.heap.get? x = some ox) (hc : ox.cls = .ref 52) (hf : ∃ vs, ox.data = .fields vs) (hd : ox.dict = none)
  (hn : findIn (KK w.params) (.ref 52) name = some none)
  (h : Q () { s with heap := ((s.heap.push emptyDict).update x fun o => { o with dict := some s.heap.objs.size }).update s.heap.objs.size (Obj.putName name (PyData.keyHash w.params name) (.str name (s.toks + 1)) v), toks := s.toks + 1 + 1 }) : wpAny (model prog w) A (setAttr (.ref x) name v) Q E s := by
 have I : InstAt s.heap x ox 52 none := ⟨hx, hc, by obtain ⟨vs, q⟩ := hf; unfold notCls; exact rwG q rfl, by refine rwG hd ?_; trivial⟩
 refine set_plain X I (nn_sa _) (osa_exc (s := { s with toks := s.toks + 1 }) X I hn ?_)
 refine xEAA (nn_mro w.params) fun cd hc' _ hd' => ?_
 have hx₁ : (s.heap.push emptyDict).get? x = some ox := Heap.get?_push_of_some _ hx
 have hxs : x ≠ s.heap.objs.size := Nat.ne_of_lt (Heap.lt_size hx)
 have hgd : ((s.heap.push emptyDict).update x fun o => { o with dict := some s.heap.objs.size }).get? s.heap.objs.size = some (dictOf [] 0) :=
  (Heap.get?_update_ne _ _ _ _ hxs.symm).trans (Heap.get?_push_at rfl rfl)
 have hup := Heap.get?_update_self (Obj.putName name (PyData.keyHash w.params name) (.str name (s.toks + 1)) v) hgd (by rw [putName_dict]; rfl)
 rw [putName_dict] at hup
 refine wpAny_bind (wpAny_pure (wpAny_bind (wpAny_bind (wpAny_loadPart hx ?_))))
 refine rwG hc ?_
 refine wpAny_bind (looks_clsIn (M := model prog w) X hc' _ _ _ _ (fun _ _ e => e) ?_)
 refine rwG hd' (rwG hd ?_)
 refine xE hf fun vs hfv => ?_; (try clear hf)
 refine rwG hfv ?_
 refine wpAny_bind (wpAny_alloc' (wpAny_bind (wpAny_update' hx₁ ?_)))
 refine wpAny_pure (a := some s.heap.objs.size) (wpAny_bind (wpAny_pure (wpAny_bind (nsSet_raw rfl rfl hgd rfl ?_))))
 exact wpAny_bind (wpAny_lookBehind hup (pastItsLine_dict (by refine rwG size_toArray (rwG sizeLine_eq (rwG (show (putL name (PyData.keyHash w.params name) (Value.str name (s.toks + 1)) v []).length = 1 from rfl) ?_)); decide)) (wpAny_pure h))
structure NagAt (P : Params) (h : Heap) (e dx te : Addr) (a b c : Value) : Prop where
 obj : ∃ oe, h.get? e = some oe /\ oe.cls = .ref 52 /\ oe.dict = some dx /\ oe.data = .fields #[.ref te, .none, .none, .none, .bool false, .none]
 dict : ∃ es n, h.get? dx = some (dictOf es n) /\ KeysAre P ["lineno", "msg", "line"] es /\ es.map (·.val) = [a, b, c]
theorem nn_fields (P : Params) : findIn (KK P) (.ref 52) "lineno" = some none /\ findIn (KK P) (.ref 52) "msg" = some none /\ findIn (KK P) (.ref 52) "line" = some none := ⟨by kernel_rfl, by kernel_rfl, by kernel_rfl⟩
theorem getL_of (h : KeysAre P ks es) (hn : ks.contains k = false) : W.getL k es = some none /\ es.any (·.key.isStr k) = false := by
 have r : Rds P (default : Heap) (fun _ => False) (es.map fun e => D.val e.val) (es.map (·.val)) := by
  clear h
  induction es with
  | nil => exact .nil
  | cons e r ih => exact .cons (.val _) ih
 exact (h.getL k r).2 hn
inductive NagB (b : List Stmt) : Prop
 | mk (s1 : Str) (p1 : Pos) (q1 : Pos) (s2 : Str) (p2 : Pos) (q2 : Pos) (s3 : Str) (p3 : Pos) (q3 : Pos) (k : Nat) (tp : Pos) (x1 : Str) (r1 : Pos) (x2 : Str) (r2 : Pos) (x3 : Str) (r3 : Pos) (k' : Nat) (vp : Pos) (pos : Pos)
  (hb : b = [.Assign [.Tuple [.Attribute (.Name s1 p1) "lineno" q1, .Attribute (.Name s2 p2) "msg" q2, .Attribute (.Name s3 p3) "line" q3] k tp] (.Tuple [.Name x1 r1, .Name x2 r2, .Name x3 r3] k' vp) pos])
  (h1 : isNm "self" s1 = true) (h2 : isNm "self" s2 = true) (h3 : isNm "self" s3 = true) (h4 : isNm "lineno" x1 = true) (h5 : isNm "msg" x2 = true) (h6 : isNm "line" x3 = true) : NagB b
noncomputable def wSelf (e : Expr) (m : Str) (k : Bool) : Bool := wAtt e fun o n _ => wName o fun s _ => isNm "self" s && n == m && k
@[elab_as_elim] theorem wSelf_E {C : Expr -> Prop} (h : wSelf e m k = true) (cc : ∀ s p q, isNm "self" s = true -> k = true -> C (.Attribute (.Name s p) m q)) : C e := by
 refine wAtt_E h fun o n q k1_ => ?_
 refine wName_E k1_ fun s p k2_ => ?_
 refine an3 k2_ fun h1 h2 h3 => ?_
 exact eq_of_beq h2 ▸ cc s p q h1 h3
noncomputable def nagM (b : List Stmt) : Bool := w1 b fun s => wAsg s fun ts v _ => w1 ts fun t => wTup t fun xs _ _ => w3 xs fun e1 e2 e3 => wSelf e1 "lineno" (wSelf e2 "msg" (wSelf e3 "line" (wTup v fun ys _ _ => w3 ys fun y1 y2 y3 => wName y1 fun x1 _ => wName y2 fun x2 _ => wName y3 fun x3 _ => isNm "lineno" x1 && isNm "msg" x2 && isNm "line" x3)))
theorem nagM_inv {b : List Stmt} (h : nagM b = true) : NagB b := by
 refine w1_E h fun s k1_ => ?_
 refine wAsg_E k1_ fun ts v pos k2_ => ?_
 refine w1_E k2_ fun t k3_ => ?_
 refine wTup_E k3_ fun xs k tp k4_ => ?_
 refine w3_E k4_ fun e1 e2 e3 k5_ => ?_
 refine wSelf_E k5_ fun s1 p1 q1 h1 k6_ => ?_
 refine wSelf_E k6_ fun s2 p2 q2 h2 k7_ => ?_
 refine wSelf_E k7_ fun s3 p3 q3 h3 k8_ => ?_
 refine wTup_E k8_ fun ys k' vp k9_ => ?_
 refine w3_E k9_ fun y1 y2 y3 k10_ => ?_
 refine wName_E k10_ fun x1 r1 k11_ => ?_
 refine wName_E k11_ fun x2 r2 k12_ => ?_
 refine wName_E k12_ fun x3 r3 k13_ => ?_
 refine an3 k13_ fun h4 h5 h6 => ?_
 exact ⟨_, _, _, _, _, _, _, _, _, _, _, _, _, _, _, _, _, _, _, _, rfl, h1, h2, h3, h4, h5, h6⟩
theorem len4 {vs : List Value} (h : vs.length = 4) : ∃ a b c d, vs = [a, b, c, d] := xEEA (lcons h) fun a _ e h => xEEE (len3 h) fun b c d e' => ⟨a, b, c, d, e' ▸ e⟩
theorem f_nag (X : (KK P).In hT) : FnAt hT 28 (fdOf (KK P) 28) (bodyOf (fdOf (KK P) 28)) ["self", "lineno", "msg", "line"] := fnAt_of X (by kernel_rfl) fun vs h => by
 obtain ⟨a, b, c, d, rfl⟩ := len4 h
 kernel_rfl
theorem m_nag (P : Params) : nagM (bodyOf (fdOf (KK P) 28)) = true := by kernel_rfl
theorem SelfAt.keep (hs : SelfAt env h x v) (F : Addr -> Prop) (hl : ¬ F env.locals) (hc : ∀ n c, env.cells.lookup n = some c -> ¬ F c) (hk : ∀ b o, ¬ F b -> h.get? b = some o -> h'.get? b = some o) : SelfAt env h' x v := (Pin.but (N := fun _ => True) F hl hc hk) x trivial v hs
theorem nag_assign {s : Shared} {name sx : Str} {px qx : Pos} {v : Value} {Q : Unit -> Shared -> Prop} (X : (KK w.params).In s.heap) (hkind : env.scope.kind = .function) (hs : isNm "self" sx = true) (hself : SelfAt env s.heap "self" (.ref e))
  (he : s.heap.get? e = some oe) (hc : oe.cls = .ref 52) (hf : ∃ vs, oe.data = .fields vs) (hd : oe.dict = some dx) (hdx : s.heap.get? dx = some (dictOf es n)) (hk : KeysAre w.params ks es) (hn : ks.contains name = false) (hfi : findIn (KK w.params) (.ref 52) name = some none) (hz : es.length <= 900)
  (h : ∀ h' tk n' tk', h'.get? dx = some (dictOf (es ++ [⟨PyData.keyHash w.params name, .str name tk', v⟩]) n') -> (∀ z o, z ≠ dx -> s.heap.get? z = some o -> h'.get? z = some o) -> Q () { s with heap := h', toks := tk }) : wpAny (model prog w) A (assign (.Attribute (.Name sx px) name qx) env v) Q E s := by
 refine xA (getL_of hk hn) fun g1 g2 => ?_
 rw [assign_Attribute]
 refine wpAny_bind (wpAny_holding (load_self hkind hs hself (wpAny_bind (wpAny_standAt (wpAny_bind (wpAny_holding (nag_set1 X he hc hf hd hdx hfi g1 hz (wpAny_release ?_))))))))
 refine xE (put_new (P := w.params) (name := name) (tk := s.toks + 1) (v := v) hdx g2) fun n' d' => ?_
 exact h _ _ n' _ d' fun z o hz q => (Heap.get?_update_ne _ _ _ _ hz).trans q
theorem ite_same {c : Prop} [Decidable c] (h : y = x) : (if c then x else y) = x := by
 by_cases q : c
 ·exact if_pos q
 ·exact (if_neg q).trans h
theorem nag_init (W : Wd w hT) (hA : Room 3 A) {a b c : Value} (O : Ok hT X s) (heT : hT.get? e = none) (he : ∃ oe, s.heap.get? e = some oe /\ oe.cls = .ref 52 /\ oe.dict = none /\ oe.data = .fields #[.ref te, .none, .none, .none, .bool false, .none])
  (h : ∀ h' tk dx, NagAt w.params h' e dx te a b c -> s.heap.get? dx = none -> (∀ b o, b ≠ e -> s.heap.get? b = some o -> h'.get? b = some o) -> Q .none { s with heap := h', toks := tk }) :
  wpAny (model prog w) A (call (.ref 28) [.ref e, a, b, c]) Q E s := by
 have XK := W.base.inK
 refine wpAny_call (enter_user (w := w) (κ := fun _ => 0) (X₀ := fun _ => False) (X := fun _ => False) (es := [.v (.val (.ref e)), .v (.val a), .v (.val b), .v (.val c)]) (f_nag XK) W.base.nolimit (by have := hA.depth; lia) ⟨O.base, fun _ f => f.elim, fun _ f => f.elim⟩ (fun _ x => x) rfl rfl (fun i p e' u hp he hu => ?_) (fun x y d d' q => ?_) (fun x d q => id) fun s₁ X' k₁ S g₁ hsub hvals => ?_)
 ·rcases i with _ | _ | _ | _ | i
  ·obtain rfl := osi he; obtain rfl := osi hu; exact .val _
  ·obtain rfl := osi he; obtain rfl := osi hu; exact .val _
  ·obtain rfl := osi he; obtain rfl := osi hu; exact .val _
  ·obtain rfl := osi he; obtain rfl := osi hu; exact .val _
  ·injection he
 ·exact (zip_v (ds := [.val (.ref e), .val a, .val b, .val c]) q).elim
 obtain ⟨s1, p1, q1, s2, p2, q2, s3, p3, q3, k, tp, x1, r1, x2, r2, x3, r3, k', vp, pos, hb, h1, h2, h3, h4, h5, h6⟩ := nagM_inv (m_nag w.params)
 refine rwG hb ?_
 have hself := hvals 0 "self" _ rfl rfl
 have ha := hvals 1 "lineno" _ rfl rfl
 have hbv := hvals 2 "msg" _ rfl rfl
 have hcv := hvals 3 "line" _ rfl rfl
 have hkind := S.fn
 have hloc : ∀ b, (b = (callEnvC (fdOf (KK w.params) 28) s.heap.objs.size 28).locals \/ ∃ n, (callEnvC (fdOf (KK w.params) 28) s.heap.objs.size 28).cells.lookup n = some b) -> s.heap.get? b = none := fun b hb => by
  have : X' b := by
   rcases hb with rfl | ⟨n, q⟩
   ·exact S.loc
   ·exact (S.cells n b q).1
  rcases g₁ b this with f | f
  ·exact f.elim
  ·exact f
 generalize callEnvC (fdOf (KK w.params) 28) s.heap.objs.size 28 = env at *
 have hA₁ : (A.deeper env).handled = none := hA.hh
 generalize A.deeper env = A₁ at *
 refine xEAAA he fun oe heo hcls hdn hdf => ?_; (try clear he)
 refine xEEA k₁ fun H1 t1 z1q _ => ?_; clear k₁; rename_i k₁; obtain rfl := z1q
 have hst : swappedStores [.Tuple [.Attribute (.Name s1 p1) "lineno" q1, .Attribute (.Name s2 p2) "msg" q2, .Attribute (.Name s3 p3) "line" q3] k tp] (.Tuple [.Name x1 r1, .Name x2 r2, .Name x3 r3] k' vp) env = pure none := by
  unfold swappedStores
  dsimp only
  exact ite_same ((if_neg Bool.false_ne_true).trans (if_pos rfl))
 refine wpAny_execs_cons (Assign_Tuple (wpAny_Tuple (wpAny_items_cons (load_self hkind h4 ha (wpAny_items_cons (load_self hkind h5 hbv (wpAny_items_cons (load_self hkind h6 hcv (wpAny_items_nil ⟨by show 3 <= sizeLine; decide, ?_⟩)) rfl)) rfl)) rfl)) rfl hst)
 have hIs : (H1.push { cls := .type "tuple", data := .seq [a, b, c].toArray }).IsTuple H1.objs.size #[a, b, c] := ⟨_, Heap.get?_push_size _ rfl, rfl, 0, rfl⟩
 refine wpAny_assign_Tuple hA₁ hIs rfl rfl fun h₂ hext => ?_
 have kk : ∀ z o, H1.get? z = some o -> h₂.get? z = some o := fun z o q => by
  have e1 := Heap.get?_push_of_some { cls := .type "tuple", data := .seq [a, b, c].toArray } q
  exact hext z o (Nat.ne_of_lt (Heap.lt_size e1)) e1
 have k2 : ∀ z o, s.heap.get? z = some o -> h₂.get? z = some o := fun z o q => kk z o (k₁ z o q)
 have hself₂ : SelfAt env h₂ "self" (.ref e) := hself.keep (fun _ => False) id (fun _ _ _ => id) fun b o _ e => kk b o e
 have hne : ∀ b, (b = env.locals \/ ∃ n, env.cells.lookup n = some b) -> b ≠ e := fun b hb q => by
  have := hloc b hb
  rw [q] at this; exact clash this heo
 have XK₂ : (KK w.params).In h₂ := XK.keeps fun b o q => k2 b o (O.base b o q)
 refine xAA (nn_fields w.params) fun f1 f2 f3 => ?_
 show wpAny _ _ (do holding [b, c] (assign (.Attribute (.Name s1 p1) "lineno" q1) env a); assignInOrder [assign (.Attribute (.Name s2 p2) "msg" q2) env, assign (.Attribute (.Name s3 p3) "line" q3) env] [b, c]) _ _ _
 refine wpAny_bind (wpAny_holding ?_)
 rw [assign_Attribute]
 refine wpAny_bind (wpAny_holding (load_self hkind h1 hself₂ (wpAny_bind (wpAny_standAt (wpAny_bind (wpAny_holding (nag_set0 (s := ⟨h₂, s.gens, s.drawn, t1, s.os⟩) XK₂ (k2 e oe heo) hcls ⟨_, hdf⟩ hdn f1 (wpAny_release ?_))))))))
 generalize hdx : h₂.objs.size = dx
 generalize hh₃ : ((h₂.push emptyDict).update e fun o => { o with dict := some dx }).update dx (Obj.putName "lineno" (PyData.keyHash w.params "lineno") (.str "lineno" (t1 + 1)) a) = h₃
 have hsz₂ : h₂.get? dx = none := by refine rwG (Eq.symm hdx) ?_; exact get_size h₂
 have hde : dx ≠ e := fun q => by
  have := k2 e oe heo
  rw [<- q] at this; exact clash hsz₂ this
 have hxs : e ≠ dx := Ne.symm hde
 have g1 : ((h₂.push emptyDict).update e fun o => { o with dict := some dx }).get? dx = some (dictOf [] 0) := by
  rw [<- hdx] at hxs ⊢
  exact (Heap.get?_update_ne _ _ _ _ hxs.symm).trans (Heap.get?_push_at rfl rfl)
 have g2 : ((h₂.push emptyDict).update e fun o => { o with dict := some dx }).get? e = some { oe with dict := some dx } := by
  refine Heap.get?_update_self _ (Heap.get?_push_of_some _ (k2 e oe heo)) ?_
  exact Obj.isFreed_of_fields (o := { oe with dict := some dx }) hdf
 refine xE (put_new (P := w.params) (name := "lineno") (tk := t1 + 1) (v := a) g1 rfl) fun n3 d3 => ?_
 rw [hh₃] at d3
 have e3 : h₃.get? e = some { oe with dict := some dx } := by refine rwG (Eq.symm hh₃) ?_; exact (Heap.get?_update_ne _ _ _ _ hxs).trans g2
 have keep3 : ∀ z o, z ≠ e -> h₂.get? z = some o -> h₃.get? z = some o := fun z o hz q => by
  have hzd : z ≠ dx := fun y => by rw [y] at q; exact clash hsz₂ q
  refine rwG (Eq.symm hh₃) ?_
  exact (Heap.get?_update_ne _ _ _ _ hzd).trans ((Heap.get?_update_ne _ _ _ _ hz).trans (Heap.get?_push_of_some _ q))
 have hloc2 : ∀ z, (z = env.locals \/ ∃ n, env.cells.lookup n = some z) -> z ≠ e := hne
 have hself₃ : SelfAt env h₃ "self" (.ref e) := hself₂.keep (fun z => z = e) (hne _ (.inl rfl)) (fun n q y => hne _ (.inr ⟨n, y⟩)) keep3
 have neT : ∀ z o, hT.get? z = some o -> z ≠ e := fun z o q y => by rw [y] at q; exact clash heT q
 have XK₃ : (KK w.params).In h₃ := XK.keeps fun z o q => keep3 z o (neT z o q) (k2 z o (O.base z o q))
 have hlocd : ∀ z, (z = env.locals \/ ∃ n, env.cells.lookup n = some z) -> z ≠ dx := fun z hz y => by
  have l : ∃ o, h₂.get? z = some o := by
   rcases hz with rfl | ⟨n, q⟩
   ·obtain ⟨m, ⟨o, _, _, q, _⟩, _⟩ := hself₂; exact ⟨o, q⟩
   ·refine xAAEEA (S.cells n z q) fun _ _ v o q _ => ?_
    exact ⟨o, kk _ _ q⟩
  refine xE l fun o q => ?_; (try clear l)
  rw [y] at q; exact clash hsz₂ q
 have dT : ∀ z o, hT.get? z = some o -> z ≠ dx := fun z o q y => by
  have := k2 z o (O.base z o q)
  rw [y] at this; exact clash hsz₂ this
 have k3 : KeysAre w.params ["lineno"] ([] ++ [⟨PyData.keyHash w.params "lineno", .str "lineno" (t1 + 1), a⟩]) := ⟨⟨_, rfl⟩, rfl, trivial⟩
 show wpAny _ _ (do holding [c] (assign (.Attribute (.Name s2 p2) "msg" q2) env b); assignInOrder [assign (.Attribute (.Name s3 p3) "line" q3) env] [c]) _ _ _
 refine wpAny_bind (wpAny_holding (nag_assign (s := ⟨h₃, s.gens, s.drawn, t1 + 1 + 1, s.os⟩) XK₃ hkind h2 hself₃ e3 hcls ⟨_, hdf⟩ rfl d3 k3 (by decide +kernel) f2 (by simp) fun h₄ tk₄ n₄ tkk₄ d4 keep4 => ?_))
 have hself₄ : SelfAt env h₄ "self" (.ref e) := hself₃.keep (fun z => z = dx) (hlocd _ (.inl rfl)) (fun n q y => hlocd _ (.inr ⟨n, y⟩)) keep4
 have XK₄ : (KK w.params).In h₄ := XK.keeps fun z o q => keep4 z o (dT z o q) (keep3 z o (neT z o q) (k2 z o (O.base z o q)))
 have k4 : KeysAre w.params ["lineno", "msg"] ([] ++ [⟨PyData.keyHash w.params "lineno", .str "lineno" (t1 + 1), a⟩] ++ [⟨PyData.keyHash w.params "msg", .str "msg" tkk₄, b⟩]) := ⟨⟨_, rfl⟩, rfl, ⟨_, rfl⟩, rfl, trivial⟩
 show wpAny _ _ (do holding [] (assign (.Attribute (.Name s3 p3) "line" q3) env c); assignInOrder [] []) _ _ _
 refine wpAny_bind (wpAny_holding (nag_assign (s := ⟨h₄, s.gens, s.drawn, tk₄, s.os⟩) XK₄ hkind h3 hself₄ (keep4 e _ hxs e3) hcls ⟨_, hdf⟩ rfl d4 k4 (by decide +kernel) f3 (by simp) fun h₅ tk₅ n₅ tkk₅ d5 keep5 => ?_))
 refine wpAny_pure (wpAny_execs_nil ?_)
 refine h h₅ tk₅ dx ⟨⟨_, keep5 e _ hxs (keep4 e _ hxs e3), hcls, rfl, hdf⟩, _, _, d5, ⟨⟨_, rfl⟩, rfl, ⟨_, rfl⟩, rfl, ⟨_, rfl⟩, rfl, trivial⟩, rfl⟩ ?_ fun z o hz q => ?_
 ·cases q : s.heap.get? dx with
  | none => rfl
  | some o => have := k2 dx o q; exact clash hsz₂ this
 ·have q2 := k2 z o q
  have hzd : z ≠ dx := fun y => by rw [y] at q2; exact clash hsz₂ q2
  exact keep5 z o hzd (keep4 z o hzd (keep3 z o hz q2))
theorem nn_raise (hh : A.handled = none)
  (h : wpAny M A x (fun v s₁ => ∃ e dx te a b c P, v = .ref e /\ Nn s₁.heap /\ NagAt P s₁.heap e dx te a b c /\ E (.ref e) s₁) E s) :
  wpAny M A (raiseStmt env (some x) none) Q E s := by
 have hcB : (Value.ref 52 :: excMro).contains (.type "BaseException") = true := by decide +kernel
 unfold raiseStmt
 refine wpAny_bind (wpAny_mono h (fun v s₁ h₁ => ?_) fun _ _ x => x)
 obtain ⟨e, dx, te, a, b, c, P, rfl, ⟨nm, q, N, bs, sn, sub, ab, col, dd, k0, k1, k2, k3, k5, mN, H⟩, I, hE⟩ := h₁
 obtain ⟨⟨⟨oc, od, odt, osl⟩, he, hc, hd, hdt⟩, _⟩ := I
 dsimp only at hc hd hdt
 subst hc hd hdt
 have hC := H.cls
 obtain ⟨hp, g, d, tk, os⟩ := s₁
 repeat (first | with_reducible refine wpAny_loadPart_at he ?_ | with_reducible refine wpAny_loadPart_at hC ?_ | (with_reducible refine wpAny_isSubtype_exc hC ?_; refine rwG hcB ?_) | wp_step)
 exact wpAny_raiseNew_none hh hE
theorem nag_raise (W : Wd w hT) (hA : Room 5 A) (S : St w.params hT env X₀ X ρ s.heap) (hn : env.scope.names = names) (hx : mE names (.glob "NannyNag") (.Name x np) = true)
  (hplain : (backTo cpos (starEach args env)).any (·.1) = false)
  (h : ∀ s₁, Keeps s s₁ -> St w.params hT env X₀ X ρ s₁.heap -> wpAny (model prog w) A (evalArgs (.ref 52) true (backTo cpos (starEach args env)) []) (fun r s₂ => ∃ a b c, r = ⟨[a, b, c], []⟩ /\ (∀ b o, hT.get? b = some o -> s₂.heap.get? b = some o) /\
   ∀ h' tk e dx te, NagAt w.params h' e dx te a b c -> s₂.heap.get? e = none -> s₂.heap.get? dx = none -> (∀ b o, s₂.heap.get? b = some o -> h'.get? b = some o) -> E (.ref e) { s₂ with heap := h', toks := tk }) E s₁) :
  wpAny (model prog w) A (exec (.Raise (some (.Call (.Name x np) args [] cpos)) none pos) env) Q E s := by
 have C' := cx_ok (prog := prog) (U := []) W.base hA (fun _ _ q => nomatch q)
 have hgl : evW (cx tb []) ρ (.glob "NannyNag") fun d => d = .val (.ref 52) := rfl
 have key : wpAny (model prog w) A (eval (.Call (.Name x np) args [] cpos) env) (fun v s₁ => ∃ e dx te a b c P, v = .ref e /\ Nn s₁.heap /\ NagAt P s₁.heap e dx te a b c /\ E (.ref e) s₁) E s := by
  refine wpAny_Call_ofName (noE ((evA C' (.glob "NannyNag")).1.use hx hn S hgl fun u s₁ d k S₁ hK hr _ => ?_))
  subst hK
  refine (hr.rd rfl).valE ?_
  unfold callWith
  refine wpAny_bind (wpAny_holding (wpAny_mono (h s₁ k S₁) (fun r s₂ q => wpAny_bind (wpAny_standAt ?_)) fun _ _ x => x))
  apply xEEEAAq1L q; intro a b c hb hE; (try clear q)
  have N₂ : Nn s₂.heap := nn_of (W.base.inK.keeps hb) (nn_in _)
  refine xEEEEEEEEEEEEEEE (id N₂) fun nm q N bs sn sub ab col dd k0 k1 k2 k3 k5 mN H => ?_
  obtain ⟨hp, g, dr, tk, os⟩ := s₂
  simp only [hplain]
  refine wpAny_bind (wpAny_keeperOf_exc H.cls ?_)
  have hfI : ∃ oI, hp.get? 28 = some oI /\ oI.cls = .type "function" := by
   have : ∃ o, (KK w.params).lookup 28 = some o /\ o.cls = .type "function" := by
    have e : ((KK w.params).lookup 28).map (·.cls) = some (.type "function") := by kernel_rfl
    refine xEA (Option.map_eq_some_iff.mp e) fun o h1 h2 => ?_
    exact ⟨o, h1, h2⟩
   refine xEA this fun o h1 h2 => ?_; (try clear this)
   exact ⟨o, hb _ _ (W.base.inK _ _ h1), h2⟩
  refine xEA hfI fun oI hI1 hI2 => ?_; (try clear hfI)
  refine wpAny_bind (wpAny_call_exc_init PySem.F.excBase_Exception H.cls H.ns (H.names ("__init__", some (.ref 28)) (by decide +kernel)) hI1 hI2 (fun h' e hm => ?_) (by show 3 <= sizeLine; decide))
  refine xEAA hm.there fun te hte ht0 htt => ?_
  have heT : hT.get? e = none := by
   cases q : hT.get? e with
   | none => rfl
   | some o => have := hb e o q; rw [show hp.get? e = none from hm.new] at this; injection this
  refine nag_init W ((hA.under 52 _).less (by decide)) (X := fun _ => False) ⟨fun z o q => hm.keeps z o (hb z o q), fun _ f => f.elim, fun _ f => f.elim⟩ heT ⟨_, hte, rfl, rfl, rfl⟩ fun h'' tk' dx I hdx keep => ⟨rfl, wpAny_bind (wpAny_holding (wpAny_point (wpAny_pure ?_)))⟩
  have keep' : ∀ z o, hp.get? z = some o -> h''.get? z = some o := fun z o q => keep z o (fun y => by rw [y, show hp.get? e = none from hm.new] at q; injection q) (hm.keeps z o q)
  refine ⟨e, dx, te, a, b, c, w.params, rfl, nn_of (W.base.inK.keeps fun z o q => keep' z o (hb z o q)) (nn_in _), I, ?_⟩
  refine hE h'' tk' e dx te I hm.new ?_ keep'
  cases q : hp.get? dx with
  | none => rfl
  | some o => have := hm.keeps dx o q; rw [show h'.get? dx = none from hdx] at this; injection this
 rw [arm_exec_Raise]
 refine wpAny_bind (wpAny_standAt (nn_raise hA.hh ?_))
 exact wpAny_bind (wpAny_mono key (fun v s₃ h₃ => wpAny_bind (wpAny_standAt (wpAny_pure h₃))) fun _ _ x => x)
theorem snd_U2 (B : Base (KK w.params) w hT tb) : ∀ A, Room 3 A -> ∀ b S', U2.lookup b = some S' -> keepIn (KK w.params) (.ref b) = true /\ Sound prog w hT A b S' := fun A hA b S' h => by
 have h1 : Room 1 A := hA.less (by decide)
 have h2 : Room 2 A := hA.less (by decide)
 have all : ∀ p ∈ U2, keepIn (KK w.params) (.ref p.1) = true /\ Sound prog w hT A p.1 p.2 :=
  fmc ⟨⟨k_longest _, snd_longest B A h1⟩, fmc ⟨⟨k_level _, snd_level B A h1⟩, fmc ⟨⟨k_equal _, snd_equal B A h1⟩, fmc ⟨⟨k_term _, snd_term B A h1⟩, fmc ⟨⟨k_nonterm _, snd_nonterm B A h1⟩,
  fmc ⟨⟨k_eof _, snd_eof B A h1⟩, fmc ⟨⟨k_texts _, snd_texts B A h1⟩, fmc ⟨⟨k_numbers _, snd_numbers B A h1⟩, fmc ⟨⟨k_columns _, snd_columns B A h1⟩, fmc ⟨⟨k_under _, snd_under B A h1⟩,
  fmc ⟨⟨k_words _, snd_words B A h1⟩, fmc ⟨⟨k_cut _, snd_cut B A h1⟩, fmc ⟨⟨k_depth _, snd_depth B A h1⟩, fmc ⟨⟨k_new _, snd_new B A h2⟩, fmc ⟨⟨k_less _, snd_less B A h2⟩,
  fmc ⟨⟨k_nlw _, snd_nlw B A h2⟩, fmc ⟨⟨k_page _, snd_page B A h2⟩, fmc ⟨⟨k_told _, snd_told B A h2⟩, fmc ⟨⟨k_ws _, snd_ws B A hA⟩, forall_mem_nil _⟩⟩⟩⟩⟩⟩⟩⟩⟩⟩⟩⟩⟩⟩⟩⟩⟩⟩⟩
 exact all (b, S') (look_mem h)
theorem cx2 (W : Wd w hT) (hA : Room 3 A) : CxOK prog w hT (cx tb U2) A := cx_ok W.base hA (snd_U2 W.base A hA)
noncomputable abbrev c_top : CE := .item (.own "stack") (.neg (.lit (.int 1)))
noncomputable abbrev c_at : CE := .item (.own "stack") (.bin .Sub (.neg (.lit (.int 1))) (.var "out"))
noncomputable def c_st1 : CS := .assign "mine" (.call (.glob "Whitespace") (.cons (.var "line") .nil))
noncomputable def c_st2 : CS := .ifS (.cmp .Is (.meth c_top "less" (.cons (.var "mine") .nil)) (.lit (.bool true))) (.cons (.mutS "stack" "append" (.cons (.var "mine") .nil)) (.cons (.ret (.list (.cons (.glob "INDENT") .nil))) .nil)) .nil
noncomputable def c_st3 : CS := .assign "out" (.lit (.int 0))
noncomputable def c_st4t : CE := .cmp .IsNot (.meth (.var "mine") "less" (.cons c_at .nil)) (.lit (.bool false))
noncomputable def c_st4b : CB := .cons (.aug "out" .Add (.lit (.int 1))) .nil
noncomputable def c_st4 : CS := .whileS c_st4t ["stack", "line", "place", "mine", "out"] c_st4b
noncomputable def c_st5 : CS := .assign "elder" c_at
noncomputable def c_st6t : CE := .not (.meth (.var "elder") "equal" (.cons (.var "mine") .nil))
noncomputable def c_st7b : CB := .cons (.mutS "stack" "pop" .nil) .nil
noncomputable def c_st7 : CS := .forS "k" (.rng1 (.var "out")) ["stack", "out"] c_st7b
noncomputable def c_st8 : CS := .ret (.bin .Mult (.list (.cons (.glob "DEDENT") .nil)) (.var "out"))
structure Sk where
 raw : List Nat
 lead : List Nat
noncomputable def skD (p : Sk) : D := wsD (st p.raw) (wsOf p.lead)
noncomputable def sksD (sk : List Sk) : List D := sk.map skD
theorem sksD_len (sk : List Sk) : (sksD sk).length = sk.length := by unfold sksD; rw [length_map]
noncomputable def WsOk (W : Ws) : Prop := W.cs.length <= 100 /\ W.tr <= 100
theorem item_sk {i : Nat} (h : sk[sk.length - 1 - i]? = some p) (hi : i < sk.length) (hl : sk.length <= 900) : itemD (.list (sksD sk)) (.int (-1 - (i : Int))) = some (skD p) := by
 show (if smallB (-1 - (i : Int)) = true then atL (sksD sk) (-1 - (i : Int)) else none) = _
 refine rwG (if_pos (of_small (by lia))) ?_
 unfold atL
 rw [PySem.seqIndex_neg (by lia) (by rw [sksD_len]; lia), sksD_len, show (-1 - (i : Int) + (sk.length : Int)).toNat = sk.length - 1 - i by lia]
 unfold sksD
 rw [Option.bind_some, List.getElem?_map, h]
 rfl
theorem w_st1 {K : Fl -> Ro -> Prop} (h1 : ρ.lookup "line" = some (.v (.str (st l)))) (hl : l.length <= 900) (h : K .next (("mine", .v (wsD (st l) (wsOf l))) :: ρ)) : exW (cx tb U2) c_st1 ρ K := by
 unfold c_st1
 (ktr_room; repeat (simp only [h1]; ktr_room))
 exact ⟨l, rfl, hl, h⟩
theorem w_st2 {sk : List Sk} {K : Fl -> Ro -> Prop} (h1 : ρ.lookup "stack" = some (.own (.list (sksD sk)))) (h2 : ρ.lookup "mine" = some (.v (skD m))) (hp : sk[sk.length - 1]? = some p) (hl : sk.length <= 800) (o1 : WsOk (wsOf p.lead)) (o2 : WsOk (wsOf m.lead))
  (hA : lessW (wsOf p.lead) (wsOf m.lead) = true -> K (.ret (.list [.int 5])) (("stack", .own (.list (sksD (sk ++ [m])))) :: ρ)) (hB : lessW (wsOf p.lead) (wsOf m.lead) = false -> K .next ρ) : exW (cx tb U2) c_st2 ρ K := by
 have hlt : 0 < sk.length := by have := (List.getElem?_eq_some_iff.mp hp).1; lia
 have hi := item_sk (i := 0) hp hlt (by lia)
 have e0 : (-1 - ((0 : Nat) : Int)) = -1 := by decide
 rw [e0] at hi
 unfold c_st2
 (ktr_room; repeat (simp only [h1, h2]; ktr_room))
 refine ask_of hi ?_
 unfold skD
 ktr_room
 refine ⟨_, _, _, _, rfl, o1.1, o2.1, o1.2, o2.2, ?_⟩
 ktr_room
 refine ⟨fun e => ?_, fun e => hB (by simpa using e)⟩
 refine ask_of (q_app (by rw [sksD_len, sizeLine_eq]; lia)) ?_
 refine ⟨by refine rwG sizeLine_eq ?_; simp, ?_⟩
 have := hA (by simpa using e)
 unfold sksD at this ⊢
 rw [map_append] at this
 exact this
theorem w_st3 {K : Fl -> Ro -> Prop} (h : K .next (("out", .v (.int 0)) :: ρ)) : exW (cx tb U2) c_st3 ρ K := by
 unfold c_st3
 ktr_room
 exact h
noncomputable def outW (m : Ws) (sk : List Sk) : Nat := (sk.reverse.takeWhile fun p => lessW m (wsOf p.lead)).length
theorem t_st4 {sk : List Sk} (h1 : ρ.lookup "stack" = some (.own (.list (sksD sk)))) (h2 : ρ.lookup "mine" = some (.v (skD m))) (h3 : ρ.lookup "out" = some (.v (.int (i : Int)))) (hp : sk[sk.length - 1 - i]? = some p) (hi : i < sk.length) (hl : sk.length <= 800) (o1 : WsOk (wsOf p.lead)) (o2 : WsOk (wsOf m.lead))
  (h : q (lessW (wsOf m.lead) (wsOf p.lead))) : evW (cx tb U2) ρ c_st4t (onBool q) := by
 unfold c_st4t
 (ktr_room; repeat (simp only [h1, h2, h3]; ktr_room))
 unfold skD at h2
 simp only [skD, mt_less, x_isR, u2_107, Option.isSome_some, true_and, x_fnR, ask_some]
 refine ask_of (item_sk hp hi (by lia)) ?_
 refine ⟨_, _, _, _, rfl, o2.1, o1.1, o2.2, o1.2, ?_⟩
 ktr_room
 refine rwG (show (!(lessW (wsOf m.lead) (wsOf p.lead) == false)) = lessW (wsOf m.lead) (wsOf p.lead) by cases lessW (wsOf m.lead) (wsOf p.lead) <;> rfl) ?_
 exact h
noncomputable def stR (sk : List Sk) (l : List Nat) (pl : Int) (m : Sk) (i : Nat) : Ro := [("stack", .own (.list (sksD sk))), ("line", .v (.str (st l))), ("place", .v (.int pl)), ("mine", .v (skD m)), ("out", .v (.int (i : Int)))]
theorem loop_st4 {K : Fl -> Ro -> Prop} (hl : sk.length <= 800) (o2 : WsOk (wsOf m.lead)) (ok : ∀ p ∈ sk, WsOk (wsOf p.lead)) (ho : out < sk.length)
  (hT : ∀ j p, j < out -> sk[sk.length - 1 - j]? = some p -> lessW (wsOf m.lead) (wsOf p.lead) = true) (hF : ∀ p, sk[sk.length - 1 - out]? = some p -> lessW (wsOf m.lead) (wsOf p.lead) = false) (h : K .next (stR sk l pl m out)) :
  ∀ (n i : Nat), i <= out -> out - i < n -> whileL (fun ρ' q => evW (cx tb U2) ρ' c_st4t (onBool q)) (fun ρ' => exsW (cx tb U2) c_st4b ρ') ["stack", "line", "place", "mine", "out"] n (stR sk l pl m i) K
 | 0, i, _, hn => by lia
 | n + 1, i, hi, hn => by
  unfold whileL
  have hlt : sk.length - 1 - i < sk.length := by lia
  have hp := List.getElem?_eq_getElem hlt
  refine t_st4 (sk := sk) (m := m) (i := i) (p := sk[sk.length - 1 - i]) rfl rfl rfl hp (by lia) hl (ok _ (List.getElem_mem hlt)) o2 ⟨fun e => ?_, fun e => ?_⟩
  ·have hio : i < out := by
    rcases Nat.lt_or_ge i out with q | q
    ·exact q
    ·have : i = out := by lia
     subst this
     rw [hF _ hp] at e; injection e
   unfold stR c_st4b
   ktr_room
   exact loop_st4 hl o2 ok ho hT hF h n (i + 1) (by lia) (by lia)
  ·have hio : i = out := by
    rcases Nat.lt_or_ge i out with q | q
    ·rw [hT i _ q hp] at e; injection e
    ·lia
   subst hio
   exact h
theorem w_st4 {out : Nat} {K : Fl -> Ro -> Prop} (hρ : keepR ["stack", "line", "place", "mine", "out"] ρ = stR sk l pl m 0) (hl : sk.length <= 800) (o2 : WsOk (wsOf m.lead)) (ok : ∀ p ∈ sk, WsOk (wsOf p.lead)) (ho : out < sk.length)
  (hT : ∀ j p, j < out -> sk[sk.length - 1 - j]? = some p -> lessW (wsOf m.lead) (wsOf p.lead) = true) (hF : ∀ p, sk[sk.length - 1 - out]? = some p -> lessW (wsOf m.lead) (wsOf p.lead) = false) (h : K .next (stR sk l pl m out)) : exW (cx tb U2) c_st4 ρ K := by
 unfold c_st4; dsimp only [exW]
 refine rwG hρ ?_
 exact ⟨out + 1, loop_st4 hl o2 ok ho hT hF h (out + 1) 0 (by lia) (by lia)⟩
theorem w_st5 {l : List Nat} {K : Fl -> Ro -> Prop} (hl : sk.length <= 800) (ho : out < sk.length) (hp : sk[sk.length - 1 - out]? = some p) (h : K .next (("elder", .v (skD p)) :: stR sk l pl m out)) : exW (cx tb U2) c_st5 (stR sk l pl m out) K := by
 unfold c_st5 stR
 ktr_room
 refine ask_of (item_sk hp ho (by lia)) ?_
 exact h
theorem t_st6 (h1 : ρ.lookup "elder" = some (.v (skD p))) (h2 : ρ.lookup "mine" = some (.v (skD m))) (h : q (!eqW (wsOf p.lead) (wsOf m.lead))) : evW (cx tb U2) ρ c_st6t (onBool q) := by
 unfold c_st6t
 (ktr_room; repeat (simp only [h1, h2]; ktr_room))
 simp only [skD, mt_equal, x_isR, u2_93, Option.isSome_some, true_and, x_fnR, ask_some]
 exact ⟨_, _, _, _, rfl, h⟩
theorem loop_st7 {sk : List Sk} {K : Fl -> Ro -> Prop} : ∀ (js : List D) (i : Nat), i + js.length <= sk.length -> sk.length <= 800 -> K .next [("stack", .own (.list (sksD (sk.take (sk.length - (i + js.length)))))), ("out", .v (.int (out : Int)))] ->
  forL (fun d ρ' => exsW (cx tb U2) c_st7b (("k", .v d) :: ρ')) ["stack", "out"] js [("stack", .own (.list (sksD (sk.take (sk.length - i))))), ("out", .v (.int (out : Int)))] K
 | [], i, _, _, h => h
 | d :: js, i, hi, hl, h => by
  unfold forL c_st7b
  rw [length_cons] at hi
  ktr_room
  have hlen : (sksD (sk.take (sk.length - i))).length = sk.length - i := by rw [sksD_len, length_take]; lia
  have e1 : mutD "pop" (.list (sksD (sk.take (sk.length - i)))) [] = some (.list (sksD (sk.take (sk.length - (i + 1))))) := by
   show (if (sksD (sk.take (sk.length - i))) ≠ [] /\ (sksD (sk.take (sk.length - i))).length <= sizeLine then some (D.list (sksD (sk.take (sk.length - i))).dropLast) else none) = _
   rw [if_pos ⟨(fun q => by rw [q] at hlen; simp at hlen; lia), by refine rwG hlen (rwG sizeLine_eq ?_); lia⟩]
   congr 2
   unfold sksD
   refine rwG (Eq.symm List.map_dropLast) (rwG List.dropLast_eq_take (rwG List.take_take (rwG length_take (rwG (Nat.min_eq_left (Nat.sub_le _ i)) (rwG (Nat.min_eq_left (Nat.sub_le _ 1)) ?_)))))
   rfl
  refine ⟨rfl, ?_⟩
  refine ask_of e1 ?_
  have := loop_st7 (sk := sk) (out := out) (K := K) js (i + 1) (by lia) hl
  rw [length_cons, show i + (js.length + 1) = i + 1 + js.length by lia] at h
  exact this h
theorem w_st7 {ρ : Ro} {out : Nat} {K : Fl -> Ro -> Prop} (hρ : keepR ["stack", "out"] ρ = [("stack", .own (.list (sksD sk))), ("out", .v (.int (out : Int)))]) (h3 : ρ.lookup "out" = some (.v (.int (out : Int)))) (hl : sk.length <= 800) (ho : out < sk.length)
  (h : K .next [("stack", .own (.list (sksD (sk.take (sk.length - out))))), ("out", .v (.int (out : Int)))]) : exW (cx tb U2) c_st7 ρ K := by
 unfold c_st7; dsimp only [exW, itW, evW]
 refine rwG h3 ?_
 refine ⟨⟨by lia, by lia⟩, ?_⟩
 rw [hρ, intL_zero, Int.toNat_natCast]
 have := loop_st7 (sk := sk) (out := out) (K := K) ((List.range out).map fun (i : Nat) => D.int (i : Int)) 0 (by rw [length_map, length_range]; lia) hl
 rw [length_map, length_range, Nat.zero_add, Nat.sub_zero, List.take_length] at this
 exact this h
theorem w_st8 {K : Fl -> Ro -> Prop} (h3 : ρ.lookup "out" = some (.v (.int (out : Int)))) (ho : out <= 800) (h : K (.ret (.list ((List.replicate out (6 : Int)).map .int))) ρ) : exW (cx tb U2) c_st8 ρ K := by
 unfold c_st8
 (ktr_room; repeat (simp only [h3]; ktr_room))
 refine ⟨by refine rwG sizeLine_eq ?_; simp, ?_⟩
 refine ask_of (q_mulL (by simp only [length_singleton, Int.toNat_natCast]; lia) (smallN (by lia))) ?_
 rw [Int.toNat_natCast, rep_six]
 exact h
section
variable {M : Model} {A : Around} {E : Value -> Shared -> Prop} {s : Shared}
theorem dict_mapFields (f : Array Value -> Array Value) (o : Obj) : (Obj.mapFields f o).dict = o.dict := by
 unfold Obj.mapFields
 split <;> rfl
noncomputable def TrD (h base : Heap) (e : Addr) (dx : Option Addr) (fl : Value) : Prop :=
 ∃ oe vs T oT ts, h.get? e = some oe /\ oe.cls = .ref 52 /\ oe.dict = dx /\ oe.data = .fields vs /\ vs[1]? = some (.ref T) /\ base.get? T = none /\ T ≠ e /\ h.get? T = some oT /\ oT.data = .fields ts /\ ts[3]? = some fl
structure FlD (base : Heap) (l : List Env) (e : Addr) (dx : Option Addr) (fl : Value) (h : Heap) : Prop where
 stays : base.StaysIn h
 new : base.get? e = none
 frames : h.FunFrames base l
 tr : TrD h base e dx fl
theorem entryD
  (hfr : A.frames = some (env :: outer)) (hl : s.heap.FunFrames base (env :: outer)) (hf : env.frame = some L)
  (he : s.heap.get? e = some oe) (hcls : oe.cls = .ref 52) (hkb : base.StaysIn s.heap) (hen : base.get? e = none) (hd : oe.data = .fields vs) (hsz : 1 < vs.size)
  (h : ∀ h', FlD base (env :: outer) e oe.dict (rawInt L) h' -> s.heap.UpToSlots h' -> Q () { s with heap := h' }) :
  wpAny M A (do let a <- frameOf env; let pl <- entryPlaceOf L hadNext; let b <- EntryCells.newEntry head a .none (rawInt L) .none pl; setField (.ref e) 1 b) Q E s := by
 have hene : e ∉ (env :: outer).filterMap (·.frame) := fun hm => by
  refine xAEA (hl.mem hm) fun _ o ho hnf => ?_
  rw [he] at ho; injection ho with ho; subst ho; exact hnf vs hd
 refine wpAny_bind (wpAny_frameOf_fun hfr hl hf fun h₁ hs₁ => ?_)
 refine wpAny_bind (wpAny_entryPlaceOf fun pl hpl => ?_)
 unfold EntryCells.newEntry newFields
 refine wpAny_bind (wpAny_newObj_type ?_ (hpl.sizeOk5 _ _ _ _ _))
 have he₁ : h₁.get? e = some oe := (hs₁.2.1 e hene).trans he
 have kb₁ : base.StaysIn h₁ := fun b o hbo => (hs₁.2.1 b fun hm => by exact clash ((hl.mem hm).1) hbo).trans (hkb b o hbo)
 let tbo : Obj := { cls := .type "traceback", dict := none, data := .fields ([head, .ref L, .none, rawInt L, .none] ++ (if pl.isEmpty then List.replicate 6 Value.none else pl)).toArray }
 have he₂ := Heap.get?_push_of_some (h := h₁) tbo he₁
 refine wpAny_setField he₂ hd hsz (h _ ?_ ?_)
 all_goals
  have hTe : h₁.objs.size ≠ e := Nat.ne_of_gt (Heap.lt_size he₁)
  have hd₃ := Obj.data_mapFields hd (·.setIfInBounds 1 (Value.ref h₁.objs.size))
  have he₃ := Heap.get?_update_self (Obj.mapFields (·.setIfInBounds 1 (Value.ref h₁.objs.size))) he₂ (Obj.isFreed_of_fields hd₃)
  have hT₃ := (Heap.get?_update_other (h₁.push tbo) (Obj.mapFields (·.setIfInBounds 1 (Value.ref h₁.objs.size))) (Ne.symm hTe)).trans (Heap.get?_push_size h₁ rfl)
  have keep : ∀ b o, b ≠ e -> h₁.get? b = some o -> ((h₁.push tbo).update e (Obj.mapFields (·.setIfInBounds 1 (Value.ref h₁.objs.size)))).get? b = some o := fun b o hbe hb => by
   refine rwG (Heap.get?_update_other _ _ (Ne.symm hbe)) ?_
   exact Heap.get?_push_of_some _ hb
  have noRecord : ∀ b o, s.heap.get? b = some o -> (∀ vs, o.data ≠ .fields vs) -> b ≠ e := fun b o hb hnf q => by
   rw [q, he] at hb; injection hb with hb; subst hb; exact hnf vs hd
 ·refine ⟨fun b o hbo => keep b o (fun q => by rw [q] at hbo; exact clash hen hbo) (kb₁ b o hbo), hen, hl.of_keeps fun b o hb hnf => ?_, ?_⟩
  ·refine xE (hs₁.2.2 b o hb) fun sl hs => ?_
   exact ⟨_, keep b _ (noRecord b o hb hnf) hs, rfl⟩
  ·exact ⟨_, _, h₁.objs.size, _, _, he₃, (Obj.cls_mapFields _ _).trans hcls, dict_mapFields _ _, hd₃, by simp [hsz], kb₁.fresh, hTe, hT₃, rfl, by first | (simp; done) | (rcases hpl with rfl | ⟨_, _, _, _, _, _, _, rfl⟩ <;> simp)⟩
 ·intro b o hb hnf
  refine xE (hs₁.2.2 b o hb) fun sl hs => ?_
  exact ⟨sl, keep b _ (noRecord b o hb hnf) hs⟩
theorem flightD (x : FlD base l e dx fl s.heap) (h : ∀ h', FlD base l e dx .none h' -> s.heap.UpToSlots h' -> Q () { s with heap := h' }) : wpAny M A (setFlight (.ref e) none) Q E s := by
 obtain ⟨hkb, hen, hl, oe, vs, T, oT, ts, he, hcls, hdx, hd, h1, hnT, hTe, hT, hdT, h3⟩ := x
 have hsz3 : 3 < ts.size := (Array.getElem?_eq_some_iff.mp h3).1
 have other : ∀ b, b ≠ T -> (s.heap.update T (Obj.mapFields (·.setIfInBounds 3 ((none : Option Addr).elim Value.none fun f => rawInt f)))).get? b = s.heap.get? b :=
  fun b hb => Heap.get?_update_other _ _ (Ne.symm hb)
 have noRecord : ∀ b o, s.heap.get? b = some o -> (∀ vs, o.data ≠ .fields vs) -> b ≠ T := fun b o hb hnf q => by
  rw [q, hT] at hb; injection hb with hb; subst hb; exact hnf ts hdT
 unfold setFlight
 refine wpAny_bind (wpAny_field he hd h1 ?_)
 refine rwG (if_pos (show (Value.ref T != Value.none) = true from by simp)) ?_
 refine wpAny_setField hT hdT hsz3 (h _ ⟨(fun b o hbo => (other b fun q => by rw [q] at hbo; exact clash hnT hbo).trans (hkb b o hbo)), hen,
  (hl.of_keeps fun b o hb hnf => ⟨o, (other b (noRecord b o hb hnf)).trans hb, rfl⟩), ?_⟩ fun b o hb hnf => ⟨o.slots, (other b (noRecord b o hb hnf)).trans hb⟩)
 exact ⟨oe, vs, T, _, _, (other e (Ne.symm hTe)).trans he, hcls, hdx, hd, h1, hnT, hTe, Heap.get?_update_self _ hT (Obj.isFreed_of_fields (Obj.data_mapFields hdT _)), Obj.data_mapFields hdT _, by simp [hsz3]⟩
theorem leaveD
  (hfr : A.frames = some (env :: outer)) (hl : s.heap.FunFrames base (env :: outer)) (hf : env.frame = some L)
  (he : s.heap.get? e = some oe) (hcls : oe.cls = .ref 52) (hkb : base.StaysIn s.heap) (hen : base.get? e = none) (hd : oe.data = .fields vs) (h1 : vs[1]? = some .none)
  (h : ∀ h', FlD base (env :: outer) e oe.dict .none h' -> s.heap.UpToSlots h' -> Q () { s with heap := h' }) : wpAny M A (leaving env (.ref e)) Q E s := by
 unfold leaving noteFrame
 simp only [hf]
 refine wpAny_bind (wpAny_bind (wpAny_field he hd h1 ?_))
 refine rwG (if_neg (by decide)) ?_
 refine entryD hfr hl hf he hcls hkb hen hd (Array.getElem?_eq_some_iff.mp h1).1 fun h' x u => ?_
 exact flightD (s := { s with heap := h' }) x fun h'' y u' => h h'' y (u.trans u')
theorem noteD
  (hfr : A.frames = some (env :: outer)) (hf : env.frame = some L) (x : FlD base (env :: outer) e dx .none s.heap)
  (h : ∀ h', FlD base (env :: outer) e dx (rawInt L) h' -> s.heap.UpToSlots h' -> Q () { s with heap := h' }) : wpAny M A (noteFrame (.ref e) env) Q E s := by
 obtain ⟨hkb, hen, hl, oe, vs, T, oT, ts, he, hcls, hdx, hd, h1, hnT, hTe, hT, hdT, h3⟩ := x
 subst hdx
 unfold noteFrame
 simp only [hf]
 refine wpAny_bind (wpAny_field he hd h1 ?_)
 refine rwG (if_pos (show (Value.ref T != Value.none) = true from by simp)) ?_
 refine wpAny_bind (wpAny_field hT hdT h3 ?_)
 refine rwG (if_neg (show ¬ ((Value.none == rawInt L) = true) from by simp [rawInt])) ?_
 refine wpAny_bind (wpAny_setField hT hdT (Array.getElem?_eq_some_iff.mp h3).1 ?_)
 have other : ∀ b, b ≠ T -> (s.heap.update T (Obj.mapFields (·.setIfInBounds 3 Value.none))).get? b = s.heap.get? b := fun b hb => Heap.get?_update_other _ _ (Ne.symm hb)
 have noRecord : ∀ b o, s.heap.get? b = some o -> (∀ vs, o.data ≠ .fields vs) -> b ≠ T := fun b o hb hnf q => by
  rw [q, hT] at hb; injection hb with hb; subst hb; exact hnf ts hdT
 refine entryD (s := { s with heap := s.heap.update T (Obj.mapFields (·.setIfInBounds 3 Value.none)) }) hfr (hl.of_keeps fun b o hb hnf => ⟨o, (other b (noRecord b o hb hnf)).trans hb, rfl⟩) hf ((other e (Ne.symm hTe)).trans he) hcls
  (fun b o hbo => (other b fun q => by rw [q] at hbo; exact clash hnT hbo).trans (hkb b o hbo)) hen hd (Array.getElem?_eq_some_iff.mp h1).1
  fun h' x u => h h' x fun b o hb hnf => u b o ((other b (noRecord b o hb hnf)).trans hb) hnf
end
theorem no127 (W : Wd w hT) : ∃ o, hT.get? 127 = some o := by
 have h := (f_fw (hT := hT) W.base.inK).code
 rw [code_fw] at h
 refine xEEEEAA h fun a o _ _ e1 e2 _ => ?_; (try clear h)
 injection e1 with e1; subst e1
 exact ⟨_, e2⟩
structure Fr1 (w : World) (hT : Heap) (env : Env) (X X₀ M : Addr -> Prop) (s : Shared) (X' : Addr -> Prop) (ρ : Ro) (σ : Shared) : Prop where
 st : St w.params hT env X₀ X' ρ σ.heap
 cov : ∀ b, X b -> ¬ M b -> X₀ b
 mx : ∀ b, M b -> X b
 nX : ¬ X 123
 keep : ∀ b o, ¬ M b -> b ≠ 123 -> s.heap.get? b = some o -> σ.heap.get? b = some o
 slot : ∀ b o, X₀ b -> s.heap.get? b = some o -> ∃ sl, σ.heap.get? b = some { o with slots := sl }
 grow : ∀ b, X' b -> X b \/ s.heap.get? b = none
 g0 : Sg s
 sg : Sg σ
 os : σ.os = s.os
section
variable {env : Env} {X X₀ M X' : Addr -> Prop} {s σ σ' : Shared} {ρ ρ' : Ro}
theorem tab_live (T : Tab 127 123 h) : (∃ o vs, h.get? 123 = some o /\ o.data = .fields vs) := by
 refine xEAA T fun ps _ hp _ => ?_; (try clear T)
 exact ⟨_, ps, hp, rfl⟩
theorem Fr1.nX' (J : Fr1 w hT env X X₀ M s X' ρ σ) : ¬ X' 123 := fun q => by
 rcases J.grow _ q with q | q
 ·exact J.nX q
 ·refine xEEA (tab_live J.g0.tab) fun o _ e _ => ?_
  exact clash q e
theorem Fr1.old (J : Fr1 w hT env X X₀ M s X' ρ σ) (hb : ¬ M b) (e : s.heap.get? b = some o) : ¬ X' b \/ X₀ b := by
 by_cases x : X b
 ·exact .inr (J.cov b x hb)
 ·refine .inl fun q => ?_
  rcases J.grow b q with q | q
  ·exact x q
  ·exact clash q e
theorem Fr1.keeps (J : Fr1 w hT env X X₀ M s X' ρ σ) (k : Keeps σ σ') : Fr1 w hT env X X₀ M s X' ρ σ' :=
 ⟨J.st.keeps (kh k), J.cov, J.mx, J.nX, fun b o h1 h2 e => kh k b o (J.keep b o h1 h2 e), fun b o h1 e => let ⟨sl, q⟩ := J.slot b o h1 e; ⟨sl, kh k _ _ q⟩, J.grow, J.g0, J.sg.keeps k, (kgens k).2.trans J.os⟩
theorem Fr1.kg (W : Wd w hT) (J : Fr1 w hT env X X₀ M s X' ρ σ) (k : KG σ σ') : Fr1 w hT env X X₀ M s X' ρ σ' :=
 ⟨J.st.but (tab_live J.sg.tab) J.nX' W.tabT k.heap, J.cov, J.mx, J.nX, fun b o h1 h2 e => k.heap b o h2 (J.keep b o h1 h2 e),
  fun b o h1 e => let ⟨sl, q⟩ := J.slot b o h1 e; ⟨sl, k.heap _ _ (fun y => J.nX' (y ▸ J.st.sub b h1)) q⟩, J.grow, J.g0, k.sg, k.os.trans J.os⟩
theorem Fr1.moved (W : Wd w hT) (J : Fr1 w hT env X X₀ M s X' ρ σ) (S : St w.params hT env X₀ X'' ρ' σ'.heap) (kb : KB N env X₀ X' σ σ') (g : Grow X' X'' σ) : Fr1 w hT env X X₀ M s X'' ρ' σ' := by
 have hk := kb.heap
 have l123 : ∀ o, σ.heap.get? 123 = some o -> σ'.heap.get? 123 = some o := fun o e => hk _ o (.inl J.nX') e
 have l127 : ∀ o, σ.heap.get? 127 = some o -> σ'.heap.get? 127 = some o := fun o e => hk _ o (.inl fun q => by
  refine xE (no127 W) fun o' q' => ?_
  exact clash (J.st.off _ q) q') e
 have hg : σ'.gens = σ.gens /\ σ'.os = σ.os := by
  apply xEEAq1L kb; intro h' tk _; (try clear kb)
  exact ⟨rfl, rfl⟩
 refine ⟨S, J.cov, J.mx, J.nX, fun b o h1 h2 e => hk b o (J.old h1 e) (J.keep b o h1 h2 e), fun b o h1 e => let ⟨sl, q⟩ := J.slot b o h1 e; ⟨sl, hk _ _ (.inr h1) q⟩, fun b q => ?_, J.g0, ⟨J.sg.tab.keep2 l127 l123, by refine rwG hg.1 ?_; exact J.sg.bare⟩, hg.2.trans J.os⟩
 rcases g b q with q | q
 ·exact J.grow b q
 ·by_cases hm : M b
  ·exact .inl (J.mx b hm)
  ·refine .inr ?_
   cases y : s.heap.get? b with
   | none => rfl
   | some o =>
    by_cases hb : b = 123
    ·subst hb
     refine xEEA (tab_live J.sg.tab) fun o' _ e' _ => ?_
     exact clash q e'
    ·exact clash q (J.keep b o hm hb y)
theorem Fr1.step (W : Wd w hT) (J : Fr1 w hT env X X₀ M s X' ρ σ) {K : Fl -> Ro -> Prop} (h : SP w hT N env X₀ X' σ K fl σ') : ∃ fl' ρ' X'', K fl' ρ' /\ Fr1 w hT env X X₀ M s X'' ρ' σ' /\ FlRd w.params σ'.heap X'' fl' fl /\ Pin N env σ.heap σ'.heap := by
 refine xEEEAAAA h fun fl' ρ' X'' hK S hf kb g => ?_; (try clear h)
 exact ⟨fl', ρ', X'', hK, J.moved W S kb g, hf, kb.pin⟩
theorem Fr1.self_kg (J : Fr1 w hT env X X₀ M s X' ρ σ) (k : KG σ σ') (h : SelfAt env σ.heap x v) : SelfAt env σ'.heap x v :=
 h.keep (fun b => b = 123) (fun q => J.nX' (q ▸ J.st.loc)) (fun n c e q => J.nX' (q ▸ (J.st.cells n c e).1)) k.heap
theorem Fr1.ex (W : Wd w hT) (C : CxOK prog w hT c A) (J : Fr1 w hT env X X₀ M s X' ρ σ) {K : Fl -> Ro -> Prop} (hm : mS names cs stm = true) (hn : env.scope.names = names) (hw : exW c cs ρ K)
  (h : ∀ fl σ' fl' ρ' X'', K fl' ρ' -> Fr1 w hT env X X₀ M s X'' ρ' σ' -> FlRd w.params σ'.heap X'' fl' fl -> Pin (fun y => y ∉ cs.sto) env σ.heap σ'.heap -> Q fl σ') : wpAny (model prog w) A (exec stm env) Q E σ := by
 refine noE (wpAny_mono (exA C cs names stm env ρ X₀ X' σ K hm hn J.st hw) (fun fl σ' q => ?_) (fun _ _ f => f))
 refine xEEEAAA (J.step W q) fun fl' ρ' X'' hK J' hf hp => ?_
 exact h fl σ' fl' ρ' X'' hK J' hf hp
theorem Fr1.nx (W : Wd w hT) (C : CxOK prog w hT c A) (J : Fr1 w hT env X X₀ M s X' ρ σ) {rest : List Stmt} (hm : mS names cs stm = true) (hn : env.scope.names = names) (hw : exW c cs ρ fun fl ρ' => fl = .next /\ ρ' = ρ₁)
  (h : ∀ σ' X'', Fr1 w hT env X X₀ M s X'' ρ₁ σ' -> Pin (fun y => y ∉ cs.sto) env σ.heap σ'.heap -> wpAny (model prog w) A (execs rest env) Q E σ') : wpAny (model prog w) A (execs (stm :: rest) env) Q E σ := by
 refine wpAny_execs_cons (J.ex W C hm hn hw fun fl σ' fl' ρ' X'' hK J' hf p => ?_)
 refine xA hK fun z1q z2q => ?_; (try clear hK); obtain rfl := z1q; obtain rfl := z2q
 cases fl <;> first | exact hf.elim | skip
 exact h σ' X'' J' p
theorem Fr1.rt (W : Wd w hT) (C : CxOK prog w hT c A) (J : Fr1 w hT env X X₀ M s X' ρ σ) {rest : List Stmt} (hm : mS names cs stm = true) (hn : env.scope.names = names) (hw : exW c cs ρ fun fl ρ' => fl = .ret d /\ ρ' = ρ₁)
  (h : ∀ v σ' X'', Fr1 w hT env X X₀ M s X'' ρ₁ σ' -> Rd w.params σ'.heap X'' d v -> Pin (fun y => y ∉ cs.sto) env σ.heap σ'.heap -> Q (.ret v) σ') : wpAny (model prog w) A (execs (stm :: rest) env) Q E σ := by
 refine wpAny_execs_cons (J.ex W C hm hn hw fun fl σ' fl' ρ' X'' hK J' hf p => ?_)
 refine xA hK fun z1q z2q => ?_; (try clear hK); obtain rfl := z1q; obtain rfl := z2q
 cases fl <;> first | exact hf.elim | skip
 exact h _ σ' X'' J' hf p
end
theorem funFrames_move {h h' base base' : Heap} : ∀ {l : List Env}, h.FunFrames base l -> (∀ b o, b ∈ l.filterMap (·.frame) -> h.get? b = some o -> ∃ sl, h'.get? b = some { o with slots := sl }) -> (∀ b ∈ l.filterMap (·.frame), base'.get? b = none) -> h'.FunFrames base' l
 | [], _, _, _ => trivial
 | env :: r, ⟨hk, ⟨L, o, hf, _, ho, hd⟩, hr⟩, k, hb => by
  have hm : L ∈ (env :: r).filterMap (·.frame) := by refine rwG filterMap_cons (rwG hf ?_); exact .head _
  have hr' : ∀ b, b ∈ r.filterMap (·.frame) -> b ∈ (env :: r).filterMap (·.frame) := fun b q => by refine rwG filterMap_cons (rwG hf ?_); exact .tail _ q
  refine xE (k L o hm ho) fun sl e => ?_
  exact ⟨hk, ⟨L, _, hf, hb L hm, e, hd⟩, funFrames_move hr (fun b o q => k b o (hr' b q)) fun b q => hb b (hr' b q)⟩
section
variable {env : Env} {X X₀ M X' : Addr -> Prop} {s σ σ' : Shared} {ρ ρ' : Ro} {names : List (Str × NameKind)}
noncomputable def tsW (f : Int -> Int -> Bool) (A B : Ws) : List Nat := ((List.range ((mx A B).toNat + 1)).map (1 + ·)).filter fun t => f (lvl A t : Nat) (lvl B t : Nat)
theorem witS_ts (f : Int -> Int -> Bool) (A B : Ws) : witS f A B = (tsW f A B).map (witD (fun t => .int (lvl A t : Nat)) (fun t => .int (lvl B t : Nat))) := by
 unfold witS tsW
 generalize List.range ((mx A B).toNat + 1) = l
 induction l with
 | nil => rfl
 | cons j r ih =>
  refine rwG map_cons (rwG flatten_cons (rwG ih (rwG map_cons (rwG filter_cons ?_))))
  unfold wit1
  split
  ·refine rwG map_cons ?_; rfl
  ·rfl
theorem tsW_len {A B : Ws} (hA : A.cs.length <= 90) (hB : B.cs.length <= 90) (hA' : A.tr <= 90) (hB' : B.tr <= 90) : (tsW f A B).length <= 100 /\ ∀ t ∈ tsW f A B, t <= 900 := by
 have hb : (mx A B).toNat <= 90 := by
  unfold mx lng
  repeat' split
  all_goals lia
 constructor
 ·refine Nat.le_trans (length_filter_le _ _) ?_
  rw [length_map, length_range]; lia
 ·intro t ht
  apply xEAq2R (mem_map.mp (mem_filter.mp ht).1); intro j hj
  have := mem_range.mp hj
  lia
theorem fwS_len (h1 : ts.length <= 100) (h2 : ∀ t ∈ ts, t <= 900) : (fwS ts).length <= 300000 := by
 obtain ⟨_, j2⟩ := join_small (sep := ofString ", ") (texts := ts.map numT) (by rw [length_map]; lia) (fun u hu => by
   apply xEAq2R (mem_map.mp hu); intro t hm
   exact numT_len t (h2 t hm)) (by decide)
 have hfp : (fwP ts.length ++ ofString " ").length <= 20 := by unfold fwP; split <;> decide
 have e : (fwS ts).length = (fwP ts.length ++ ofString " ").length + (Txt.join (ofString ", ") (ts.map numT)).length := Str.length_append _ _
 refine rwG e ?_; lia
theorem Fr1.fw (W : Wd w hT) (hA : Room 6 A) (J : Fr1 w hT env X X₀ M s X' ρ σ) {ex : Expr} (hm : mE names (.call (.glob "format_witnesses") (.cons e .nil)) ex = true) (hn : env.scope.names = names)
  (hw : evsW (cx tb U2) ρ (.cons e .nil) fun ds => ds = [.list (ts.map (witD g h))]) (hl : ts.length <= 100) (ht : ∀ t ∈ ts, t <= 900)
  (hQ : ∀ σ' t, Fr1 w hT env X X₀ M s X' ρ σ' -> (∀ x v, SelfAt env σ.heap x v -> SelfAt env σ'.heap x v) -> KG σ σ' -> Q (.str (fwS ts) t) σ') : wpAny (model prog w) A (eval ex env) Q E σ := by
 have C := cx2 (prog := prog) W (hA.less (by decide : 3 <= 6))
 refine call_raw C hm hn J.st (v := .ref 128) (Kd := fun ds => ds = [.list (ts.map (witD g h))]) (nr rfl) (fun h hb => keeps_K (k_fw _) h (W.base.inK.keeps hb)) hw fun vs s' ds k S' hK hr => ?_
 subst hK
 refine hr.consE fun _ _ r rs => ?_
 refine rs.nilE ?_
 have J' := J.keeps k
 refine noE (wpAny_mono (fw_ok (prog := prog) W hA J'.st.ok J'.nX' J'.sg r hl ht) (fun v s'' ⟨kg, t, e⟩ => ?_) (fun _ _ f => f))
 subst e
 exact hQ s'' t (J'.kg W kg) (fun x v q => J'.self_kg kg ((Pin.all (N := fun _ => True) (kh k)) x trivial v q)) ((KG.of J.sg k).trans kg)
theorem Fr1.cat (W : Wd w hT) (hA : Room 6 A) (J : Fr1 w hT env X X₀ M s X' ρ σ) {l ex : Expr} (hcl : mE names cl l = true) (ho : cl.isOwn = false) (hm : mE names (.call (.glob "format_witnesses") (.cons e .nil)) ex = true) (hn : env.scope.names = names)
  (h1 : evW (cx tb U2) ρ cl fun d => d = .str a) (hw : evsW (cx tb U2) ρ (.cons e .nil) fun ds => ds = [.list (ts.map (witD g h))]) (ha : a.length <= 400000) (hl : ts.length <= 100) (ht : ∀ t ∈ ts, t <= 900)
  (hQ : ∀ σ' t, Fr1 w hT env X X₀ M s X' ρ σ' -> (∀ x v, SelfAt env σ.heap x v -> SelfAt env σ'.heap x v) -> KG σ σ' -> Q (.str (a ++ fwS ts) t) σ') : wpAny (model prog w) A (eval (.BinOp l .Add ex pos) env) Q E σ := by
 have C := cx2 (prog := prog) W (hA.less (by decide : 3 <= 6))
 refine wpAny_BinOp (noE ((evA C cl).1.use hcl hn J.st h1 fun u₁ σ₁ d₁ k₁ S₁ hK₁ hr₁ _ => ?_))
 subst hK₁
 have r₁ := hr₁.rd ho
 refine r₁.strE fun t₁ => ?_
 have J₁ := J.keeps k₁
 refine J₁.fw W hA hm hn hw hl ht fun σ₂ t₂ J₂ sf₂ kg₂ => ?_
 have hb : (cx tb U2).bin .Add (.str a) (.str (fwS ts)) fun d => d = .str (a ++ fwS ts) := by
  have := fwS_len hl ht
  rw [x_bin, q_addS (by refine rwG sizeLine_eq ?_; lia), ask_some]
 refine noE (wpAny_mono (C.bin .Add _ _ _ X' σ₂ _ _ J₂.st.ok hb (.inl (.str _ t₁)) (.str _ t₂)) (fun v' σ₃ q => ?_) (fun _ _ f => f))
 refine xAEAA q fun k₃ d z1q hr _ => ?_; (try clear q); obtain rfl := z1q
 refine hr.strE fun t₃ => ?_
 exact hQ σ₃ t₃ (J₂.keeps k₃) (fun x v q => (Pin.all (N := fun _ => True) (kh k₃)) x trivial v (sf₂ x v ((Pin.all (N := fun _ => True) (kh k₁)) x trivial v q))) (((KG.of J.sg k₁).trans kg₂).trans (KG.of J₂.sg k₃))
end
noncomputable def c_sw1 : CE := .meth c_top "not_less_witness" (.cons (.var "mine") .nil)
noncomputable def c_sw2 : CE := .meth (.var "elder") "not_equal_witness" (.cons (.var "mine") .nil)
noncomputable def c_sl2 : CE := .bin .Add (.var "words") (.lit (.str (ofString "; not equal ")))
structure StepsAt (names : List (Str × NameKind)) (s1 s2 s3 s4 s5 s7 s8 : Stmt) (t l1 f1 l2 f2 a1 a3 : Expr) (wn nx : Str) (np : Pos) : Prop where
 h1 : mS names c_st1 s1 = true
 h2 : mS names c_st2 s2 = true
 h3 : mS names c_st3 s3 = true
 h4 : mS names c_st4 s4 = true
 h5 : mS names c_st5 s5 = true
 h7 : mS names c_st7 s7 = true
 h8 : mS names c_st8 s8 = true
 ht : mE names c_st6t t = true
 hw : isStore names "words" wn = true
 hl1 : mE names (.lit (.str (ofString "not greater "))) l1 = true
 hf1 : mE names (.call (.glob "format_witnesses") (.cons c_sw1 .nil)) f1 = true
 hl2 : mE names c_sl2 l2 = true
 hf2 : mE names (.call (.glob "format_witnesses") (.cons c_sw2 .nil)) f2 = true
 hx : mE names (.glob "NannyNag") (.Name nx np) = true
 ha1 : mE names (.var "place") a1 = true
 ha3 : mE names (.var "line") a3 = true
noncomputable def saM (names : List (Str × NameKind)) (sa : Stmt) : Bool := wAsg sa fun ts v _ => wName1 ts fun wn => wBin v fun l1 o1 f1 _ => o1 == .Add && isStore names "words" wn && mE names (.lit (.str (ofString "not greater "))) l1 && mE names (.call (.glob "format_witnesses") (.cons c_sw1 .nil)) f1
theorem saM_inv (h : saM names sa = true) : ∃ wn p1 l1 f1 p2 p3, sa = .Assign [.Name wn p1] (.BinOp l1 .Add f1 p2) p3 /\ isStore names "words" wn = true /\ mE names (.lit (.str (ofString "not greater "))) l1 = true /\ mE names (.call (.glob "format_witnesses") (.cons c_sw1 .nil)) f1 = true := by
 refine wAsg_E h fun ts v p3 g1 => ?_
 refine wName1_E g1 fun wn p1 g2 => ?_
 refine wBin_E g2 fun l1 o1 f1 p2 g3 => ?_
 refine an4 g3 fun z1 z2 z3 z4 => ?_
 exact ⟨_, _, _, _, _, _, by exact rwG (eq_of_beq z1) rfl, z2, z3, z4⟩
noncomputable def srM (names : List (Str × NameKind)) (sr : Stmt) : Bool := wRai sr fun re rc _ => wNone rc (wSome re fun re => wCall re fun g as ks _ => w0 ks (w3 as fun a1 a2 a3 => wName g fun nx np => wBin a2 fun l2 o2 f2 _ => o2 == .Add && mE names c_sl2 l2 && mE names (.call (.glob "format_witnesses") (.cons c_sw2 .nil)) f2 && mE names (.glob "NannyNag") (.Name nx np) && mE names (.var "place") a1 && mE names (.var "line") a3))
theorem srM_inv (h : srM names sr = true) : ∃ nx np a1 l2 f2 p4 a3 p5 p6, sr = .Raise (some (.Call (.Name nx np) [a1, .BinOp l2 .Add f2 p4, a3] [] p5)) none p6 /\ mE names c_sl2 l2 = true /\ mE names (.call (.glob "format_witnesses") (.cons c_sw2 .nil)) f2 = true /\ mE names (.glob "NannyNag") (.Name nx np) = true /\ mE names (.var "place") a1 = true /\ mE names (.var "line") a3 = true := by
 refine wRai_E h fun re rc p6 g1 => ?_
 refine wNone_E g1 fun g2 => ?_
 refine wSome_E g2 fun re g3 => ?_
 refine wCall_E g3 fun g as ks p5 g4 => ?_
 refine w0_E g4 fun g5 => ?_
 refine w3_E g5 fun a1 a2 a3 g6 => ?_
 refine wName_E g6 fun nx np g7 => ?_
 refine wBin_E g7 fun l2 o2 f2 p4 g8 => ?_
 refine an6 g8 fun z1 z2 z3 z4 z5 z6 => ?_
 exact ⟨_, _, _, _, _, _, _, _, _, by exact rwG (eq_of_beq z1) rfl, z2, z3, z4, z5, z6⟩
noncomputable def s6M (names : List (Str × NameKind)) (s6 : Stmt) : Bool := wIf s6 fun t ib io _ => w0 io (w2 ib fun sa sr => mE names c_st6t t && saM names sa && srM names sr)
inductive StepsB (names : List (Str × NameKind)) (b : List Stmt) : Prop
 | mk (s1 s2 s3 s4 s5 : Stmt) (t : Expr) (wn : Str) (p1 : Pos) (l1 f1 : Expr) (p2 p3 : Pos) (nx : Str) (np : Pos) (a1 l2 f2 : Expr) (p4 : Pos) (a3 : Expr) (p5 p6 p7 : Pos) (s7 s8 : Stmt)
  (hb : b = [s1, s2, s3, s4, s5, .If t [.Assign [.Name wn p1] (.BinOp l1 .Add f1 p2) p3, .Raise (some (.Call (.Name nx np) [a1, .BinOp l2 .Add f2 p4, a3] [] p5)) none p6] [] p7, s7, s8]) (F : StepsAt names s1 s2 s3 s4 s5 s7 s8 t l1 f1 l2 f2 a1 a3 wn nx np) : StepsB names b
noncomputable def stepsM (names : List (Str × NameKind)) (b : List Stmt) : Bool :=
 wCons b fun s1 r => wCons r fun s2 r => wCons r fun s3 r => wCons r fun s4 r => wCons r fun s5 r => w3 r fun s6 s7 s8 => s6M names s6 && mS names c_st1 s1 && mS names c_st2 s2 && mS names c_st3 s3 && mS names c_st4 s4 && mS names c_st5 s5 && mS names c_st7 s7 && mS names c_st8 s8
theorem stepsM_inv (h : stepsM names b = true) : StepsB names b := by
 refine wCons_E h fun s1 r1 g1 => ?_
 refine wCons_E g1 fun s2 r2 g2 => ?_
 refine wCons_E g2 fun s3 r3 g3 => ?_
 refine wCons_E g3 fun s4 r4 g4 => ?_
 refine wCons_E g4 fun s5 r5 g5 => ?_
 refine w3_E g5 fun s6 s7 s8 g6 => ?_
 refine an8 g6 fun z6 h1 h2 h3 h4 h5 h7 h8 => ?_
 refine wIf_E z6 fun t ib io p7 k1 => ?_
 refine w0_E k1 fun k2 => ?_
 refine w2_E k2 fun sa sr k3 => ?_
 refine an3 k3 fun y1 y2 y3 => ?_
 apply xEEEEEEAAAq1L (saM_inv y2); intro wn p1 l1 f1 p2 p3 hw hl1 hf1
 obtain ⟨nx, np, a1, l2, f2, p4, a3, p5, p6, rfl, hl2, hf2, hx, ha1, ha3⟩ := srM_inv y3
 exact ⟨_, _, _, _, _, _, _, _, _, _, _, _, _, _, _, _, _, _, _, _, _, _, _, _, rfl, ⟨h1, h2, h3, h4, h5, h7, h8, y1, hw, hl1, hf1, hl2, hf2, hx, ha1, ha3⟩⟩
theorem f_steps (X : (KK P).In hT) : FnAt hT 171 (fdOf (KK P) 171) (bodyOf (fdOf (KK P) 171)) ["stack", "line", "place"] := fnAt_of X (by kernel_rfl) fun vs h => by
 apply xEEEq1L (len3 h); intro a b c
 kernel_rfl
theorem m_steps (P : Params) : stepsM (fdOf (KK P) 171).scope.names (bodyOf (fdOf (KK P) 171)) = true := by kernel_rfl
theorem k_steps (P : Params) : keepIn (KK P) (.ref 171) = true := by kernel_rfl
theorem cells_steps (P : Params) : ((fdOf (KK P) 171).scope.names.all fun y => y.2 != .cell) = true := by kernel_rfl
theorem take_tr : ∀ {l : List α} {j : Nat} {p : α}, j < (l.takeWhile f).length -> l[j]? = some p -> f p = true
 | [], j, p, h, _ => by simp at h
 | a :: r, j, p, h, e => by
  rw [takeWhile_cons] at h
  cases q : f a with
  | false => rw [q] at h; simp at h
  | true =>
   rw [q, if_pos rfl, length_cons] at h
   cases j with
   | zero => obtain rfl := osi e; exact q
   | succ j => exact take_tr (l := r) (j := j) (by lia) e
theorem take_fa : ∀ {l : List α} {p : α}, l[(l.takeWhile f).length]? = some p -> f p = false
 | [], p, e => by simp at e
 | a :: r, p, e => by
  rw [takeWhile_cons] at e
  cases q : f a with
  | false => rw [q] at e; obtain rfl := osi e; exact q
  | true =>
   rw [q, if_pos rfl, length_cons] at e
   exact take_fa (l := r) e
theorem outW_facts (h : outW m sk < sk.length) : (∀ j p, j < outW m sk -> sk[sk.length - 1 - j]? = some p -> lessW m (wsOf p.lead) = true) /\ ∀ p, sk[sk.length - 1 - outW m sk]? = some p -> lessW m (wsOf p.lead) = false := by
 have rev : ∀ j, j < sk.length -> sk.reverse[j]? = sk[sk.length - 1 - j]? := fun j hj => by exact rwG (List.getElem?_reverse hj) rfl
 constructor
 ·intro j p hj e
  rw [<- rev j (by lia)] at e
  exact take_tr (f := fun p : Sk => lessW m (wsOf p.lead)) hj e
 ·intro p e
  rw [<- rev _ h] at e
  exact take_fa (f := fun p : Sk => lessW m (wsOf p.lead)) e
structure WsB (W : Ws) : Prop where
 cs : W.cs.length <= 90
 tr : W.tr <= 90
theorem WsB.ok (h : WsB W) : WsOk W := ⟨by have := h.cs; lia, by have := h.tr; lia⟩
noncomputable def wordsN (p m : Ws) : Str := ofString "not greater " ++ fwS (tsW geI p m)
noncomputable def wordsA (p q m : Ws) : Str := (wordsN p m ++ ofString "; not equal ") ++ fwS (tsW neI q m)
structure Went (w : World) (X : Addr -> Prop) (r : Addr) (sk' : List Sk) (ds : List Int) (s : Shared) (v : Value) (s' : Shared) : Prop where
 keep : ∀ b o, b ≠ r -> b ≠ 123 -> s.heap.get? b = some o -> s'.heap.get? b = some o
 sg : Sg s'
 os : s'.os = s.os
 own : OwnRd w.params s'.heap X (.list (sksD sk')) (.ref r) r
 rd : Rd w.params s'.heap X (.list (ds.map .int)) v
structure Flew (w : World) (X : Addr -> Prop) (r : Addr) (outer : List Env) (sk : List Sk) (a b c : Value) (s : Shared) (e dx : Addr) (B : Heap) (s' : Shared) : Prop where
 fl : FlD B outer e (some dx) .none s'.heap
 new : s.heap.get? e = none
 newd : s.heap.get? dx = none
 dict : ∃ es n, B.get? dx = some (dictOf es n) /\ KeysAre w.params ["lineno", "msg", "line"] es /\ es.map (·.val) = [a, b, c]
 keep : ∀ z o, z ≠ r -> z ≠ 123 -> z ∉ outer.filterMap (·.frame) -> s.heap.get? z = some o -> B.get? z = some o
 own : OwnRd w.params B X (.list (sksD sk)) (.ref r) r
 tab : Tab 127 123 B
 bare : AllBare s'.gens
 os : s'.os = s.os
 slot : ∀ z o, z ∈ outer.filterMap (·.frame) -> s.heap.get? z = some o -> ∃ sl, s'.heap.get? z = some { o with slots := sl }
theorem w_sw1 (h1 : ρ.lookup "stack" = some (.own (.list (sksD sk)))) (h2 : ρ.lookup "mine" = some (.v (skD m))) (hp : sk[sk.length - 1]? = some p) (hl : sk.length <= 800) (o1 : WsOk (wsOf p.lead)) (o2 : WsOk (wsOf m.lead)) :
  evsW (cx tb U2) ρ (.cons c_sw1 .nil) fun ds => ds = [.list ((tsW geI (wsOf p.lead) (wsOf m.lead)).map (witD (fun t => .int (lvl (wsOf p.lead) t : Nat)) (fun t => .int (lvl (wsOf m.lead) t : Nat))))] := by
 have hlt : 0 < sk.length := by have := (List.getElem?_eq_some_iff.mp hp).1; lia
 have hi := item_sk (i := 0) hp hlt (by lia)
 have e0 : (-1 - ((0 : Nat) : Int)) = -1 := by decide
 rw [e0] at hi
 unfold c_sw1
 (ktr_room; repeat (simp only [h1, h2]; ktr_room))
 refine ask_of hi ?_
 unfold skD
 simp only [mt_nlw, x_isR, u2_114, Option.isSome_some, true_and, x_fnR, ask_some]
 exact ⟨_, _, _, _, rfl, o1.1, o2.1, o1.2, o2.2, by rw [witS_ts]⟩
theorem w_sw2 (h1 : ρ.lookup "elder" = some (.v (skD p))) (h2 : ρ.lookup "mine" = some (.v (skD m))) (o1 : WsOk (wsOf p.lead)) (o2 : WsOk (wsOf m.lead)) :
  evsW (cx tb U2) ρ (.cons c_sw2 .nil) fun ds => ds = [.list ((tsW neI (wsOf p.lead) (wsOf m.lead)).map (witD (fun t => .int (lvl (wsOf p.lead) t : Nat)) (fun t => .int (lvl (wsOf m.lead) t : Nat))))] := by
 unfold c_sw2
 (ktr_room; repeat (simp only [h1, h2]; ktr_room))
 unfold skD
 simp only [mt_new, x_isR, u2_100, Option.isSome_some, true_and, x_fnR, ask_some]
 exact ⟨_, _, _, _, rfl, o1.1, o2.1, o1.2, o2.2, by rw [witS_ts]⟩
theorem w_sl2 (h : ρ.lookup "words" = some (.v (.str a))) (ha : a.length <= 350000) : evW (cx tb U2) ρ c_sl2 fun d => d = .str (a ++ ofString "; not equal ") := by
 unfold c_sl2
 dsimp only [evW, litD]
 simp only [h, x_bin]
 rw [q_addS (by refine rwG sizeLine_eq (rwG (show (ofString "; not equal ").length = 12 by decide) ?_); lia), ask_some]
noncomputable def rS0 (sk : List Sk) (l : List Nat) (pl : Int) : Ro := [("stack", .own (.list (sksD sk))), ("line", .v (.str (st l))), ("place", .v (.int pl))]
noncomputable def rS1 (sk : List Sk) (l : List Nat) (pl : Int) : Ro := ("mine", .v (skD ⟨l, l⟩)) :: rS0 sk l pl
noncomputable def rS2 (sk : List Sk) (l : List Nat) (pl : Int) : Ro := ("out", .v (.int 0)) :: rS1 sk l pl
noncomputable def rS3 (sk : List Sk) (l : List Nat) (pl : Int) (elder : Sk) : Ro := ("elder", .v (skD elder)) :: stR sk l pl ⟨l, l⟩ (outW (wsOf l) sk)
theorem steps_leave (W : Wd w hT) (O : Ok hT X s) (hPX : ¬ X 123) (G : Sg s) (own : OwnRd w.params s.heap X (.list (sksD sk)) (.ref r) r)
  (hfun : s.heap.FunFrames {} outer) (hfx : ∀ b ∈ outer.filterMap (·.frame), X b /\ b ≠ r) (rX : X r) (hfr' : A.frames = some (env :: outer)) (hLn : s.heap.get? L = none) (hf : env.frame = some L) (hloc : env.locals = L) (hkind : env.scope.kind = .function)
  (J : Fr1 w hT env X (fun b => X b /\ b ≠ r) (fun b => b = r) s X₁ ρ σ) (hs : SelfAt env σ.heap "stack" (.ref r)) (hlk : ρ.lookup "stack" = some (.own (.list (sksD sk))))
  (hE : ∀ e dx B s', Flew w X r outer sk va vb vc s e dx B s' -> E (.ref e) s') (N : NagAt w.params h' e dx te va vb vc) (he : σ.heap.get? e = none) (hdx : σ.heap.get? dx = none) (keep : ∀ b o, σ.heap.get? b = some o -> h'.get? b = some o) :
  wpAny (model prog w) A (leaving env (.ref e)) (fun x s'' => E (.ref e) s'') E { σ with heap := h', toks := tk } := by
 obtain ⟨⟨oe, heo, hcls, hdict, hdata⟩, es, n, hdo, hks, hvs⟩ := N
 have ns : ∃ m, h'.Ns L m := by
  refine xEEA J.st.vars fun m _ hn _ => ?_
  exact ⟨m, (hloc ▸ hn).keeps keep⟩
 refine xE ns fun m _ => ?_; clear ns; rename_i ns
 have fresh : ∀ {z : Addr} {o : Obj}, z ≠ r -> z ≠ 123 -> s.heap.get? z = some o -> h'.get? z = some o := fun h1 h2 q => keep _ _ (J.keep _ _ h1 h2 q)
 have newOf : ∀ {z : Addr}, σ.heap.get? z = none -> s.heap.get? z = none := fun {z} q => by
  cases y : s.heap.get? z with
  | none => rfl
  | some o =>
   by_cases hz : z = r
   ·subst hz
    obtain ⟨o', q'⟩ := J.st.live _ (by
     refine xEA (J.st.own_val (x := "stack") (d := .list (sksD sk)) hlk hs) fun r' ho _ => ?_
     exact ho.listE' fun _ _ a _ _ => a)
    exact clash q q'
   ·by_cases hz' : z = 123
    ·subst hz'
     refine xEEA (tab_live J.sg.tab) fun o' _ e' _ => ?_
     exact clash q e'
    ·exact clash q (J.keep z o hz hz' y)
 have hen := newOf he
 have hdn := newOf hdx
 have frm : ∀ b, b ∈ (env :: outer).filterMap (·.frame) ↔ b = L \/ b ∈ outer.filterMap (·.frame) := fun b => by refine rwG filterMap_cons (rwG hf ?_); exact mem_cons
 have h123 : ∃ o, s.heap.get? 123 = some o := by
  refine xEEA (tab_live G.tab) fun o _ q _ => ?_
  exact ⟨o, q⟩
 have fr123 : ∀ b ∈ outer.filterMap (·.frame), b ≠ 123 := fun b hb q => hPX (q ▸ (hfx b hb).1)
 have hFun : h'.FunFrames {} (env :: outer) := Heap.FunFrames.cons (by refine rwG hkind ?_; decide) hf ns rfl (funFrames_move hfun (fun b o hb q => ⟨o.slots, fresh (hfx b hb).2 (fr123 b hb) q⟩) fun b _ => rfl)
 have eL : e ≠ L := fun q => by
  refine xE (J.st.live _ J.st.loc) fun o y => ?_
  rw [hloc, <- q] at y; exact clash he y
 generalize hB : hideAll h' (e :: (env :: outer).filterMap (·.frame)) = B
 have Bget : ∀ {z : Addr} {o : Obj}, h'.get? z = some o -> z ≠ e -> z ≠ L -> z ∉ outer.filterMap (·.frame) -> B.get? z = some o := fun q h1 h2 h3 => by
  refine rwG (Eq.symm hB) ?_
  refine hideAll_get _ q fun y => ?_
  rcases mem_cons.mp y with y | y
  ·exact h1 y
  ·rcases (frm _).mp y with y | y
   ·exact h2 y
   ·exact h3 y
 refine leaveD (base := B) hfr' (by refine rwG (Eq.symm hB) ?_; exact funFrames_hide hFun fun env' he' b hb => mem_cons_of_mem _ (List.mem_filterMap.mpr ⟨env', he', hb⟩)) hf heo hcls (fun b o q => by rw [<- hB] at q; exact of_hideAll _ q) (by refine rwG (Eq.symm hB) ?_; exact hideAll_none _ (.head _)) hdata rfl fun h'' fl up => ?_
 refine hE e dx B _ ⟨⟨fl.stays, fl.new, fl.frames.2.2, hdict ▸ fl.tr⟩, hen, hdn, ⟨es, n, Bget hdo ?_ ?_ ?_, hks, hvs⟩, fun z o h1 h2 h3 q => ?_, ?_, ?_, J.sg.bare, J.os, fun z o hz q => ?_⟩
 ·intro q
  rw [q, heo] at hdo
  obtain rfl := osi hdo
  injection hdata
 ·intro q
  refine xE (J.st.live _ J.st.loc) fun o y => ?_
  rw [hloc, <- q] at y; exact clash hdx y
 ·intro q
  refine xAEA (hfun.mem q) fun _ o y _ => ?_
  exact clash hdn y
 ·exact Bget (fresh h1 h2 q) (fun y => by rw [y] at q; exact clash hen q) (fun y => by rw [y] at q; exact clash hLn q) h3
 ·refine xEA (J.st.own_val (x := "stack") (d := .list (sksD sk)) hlk hs) fun r' ho _ => ?_
  refine ho.listE' fun _ _ a b c => ?_
  have sub : ∀ b, X b -> X₁ b := fun b x => by
   by_cases q : b = r
   ·refine rwG q ?_; exact a
   ·exact J.st.sub b ⟨x, q⟩
  refine xE own.live fun ro hro => ?_
  refine .list rX (Bget (keep _ _ b) (fun y => by rw [<- y] at he; exact clash he b) (fun y => by rw [y] at hro; exact clash hLn hro) fun y => (hfx _ y).2 rfl) (c.move (fun z o hz q => ?_) fun z _ _ x => sub z x)
  exact Bget (keep _ _ q) (fun y => by rw [<- y] at he; exact clash he q) (fun y => hz (by refine rwG y (rwG (Eq.symm hloc) ?_); exact J.st.loc)) fun y => hz (sub _ (hfx _ y).1)
 ·refine xE (no127 W) fun o7 q7 => ?_
  refine J.sg.tab.keep2 (fun o q => ?_) fun o q => ?_
  ·refine Bget (keep _ _ q) (fun y => by rw [<- y] at he; exact clash he q) (fun y => ?_) fun y => ?_
   ·have := J.st.off _ J.st.loc
    rw [hloc, <- y] at this; exact clash this q7
   ·have := O.off _ (hfx _ y).1
    exact clash this q7
  ·exact Bget (keep _ _ q) (fun y => by rw [<- y] at he; exact clash he q) (fun y => J.nX' (by refine rwG y (rwG (Eq.symm hloc) ?_); exact J.st.loc)) fun y => hPX (hfx _ y).1
 ·refine xAEA (hfun.mem hz) fun _ o' y hnf => ?_
  rw [q] at y
  obtain rfl := osi y
  exact up z o (fresh (hfx z hz).2 (fr123 z hz) q) hnf
theorem steps_ok (W : Wd w hT) (hA : Room 7 A)
  (O : Ok hT X s) (hPX : ¬ X 123) (G : Sg s) (own : OwnRd w.params s.heap X (.list (sksD sk)) (.ref r) r) (rl : Rd w.params s.heap X (.str (st l)) vl) (rp : Rd w.params s.heap X (.int pl) vp)
  (hfr : A.frames = some outer) (hfun : s.heap.FunFrames {} outer) (hfx : ∀ b ∈ outer.filterMap (·.frame), X b /\ b ≠ r)
  (hl : l.length <= 900) (hsl : sk.length <= 700) (ok : ∀ p ∈ sk, WsB (wsOf p.lead)) (okm : WsB (wsOf l)) (hbot : outW (wsOf l) sk < sk.length) (htop : sk[sk.length - 1]? = some top) (held : sk[sk.length - 1 - outW (wsOf l) sk]? = some elder)
  (h5 : lessW (wsOf top.lead) (wsOf l) = true -> ∀ v s', Went w X r (sk ++ [⟨l, l⟩]) [5] s v s' -> Q v s')
  (h6 : lessW (wsOf top.lead) (wsOf l) = false -> eqW (wsOf elder.lead) (wsOf l) = true -> ∀ v s', Went w X r (sk.take (sk.length - outW (wsOf l) sk)) (List.replicate (outW (wsOf l) sk) 6) s v s' -> Q v s')
  (hE : lessW (wsOf top.lead) (wsOf l) = false -> eqW (wsOf elder.lead) (wsOf l) = false -> ∀ e dx B s' t1 t2 t3, Flew w X r outer sk (.int pl t1) (.str (wordsA (wsOf top.lead) (wsOf elder.lead) (wsOf l)) t2) (.str (st l) t3) s e dx B s' -> E (.ref e) s') :
  wpAny (model prog w) A (call (.ref 171) [.ref r, vl, vp]) Q E s := by
 have XK := W.base.inK
 have rX : X r := own.root
 refine enter_plain (κ := fun _ => r) (X₀ := fun b => X b /\ b ≠ r) (es := [.own (.list (sksD sk)), .v (.str (st l)), .v (.int pl)]) (f_steps XK) W.base.nolimit hA (cells_steps w.params) O (fun _ x => x.1) rfl rfl (fun i p e u hp he hu => ?_) (fun x y d d' q q' _ => ?_) (fun x d q z => z.2 rfl) fun env A₁ s₁ X' hLn hA' hfr₁ hcells hf _ hnames k₁ S g₁ hsub hvals => ?_
 ·rcases i with _ | _ | _ | i
  ·obtain rfl := osi he; obtain rfl := osi hu; exact own
  ·obtain rfl := osi he; obtain rfl := osi hu; exact rl
  ·obtain rfl := osi he; obtain rfl := osi hu; exact rp
  ·injection he
 ·have e : ∀ x d, ((["stack", "line", "place"].zip [Ent.own (.list (sksD sk)), .v (.str (st l)), .v (.int pl)]).lookup x = some (.own d)) -> x = "stack" := fun x d q => by
   rcases look_put q with ⟨e, _⟩ | ⟨_, q⟩
   ·exact e
   ·rcases look_put q with ⟨_, e⟩ | ⟨_, q⟩
    ·injection e
    ·rcases look_put q with ⟨_, e⟩ | ⟨_, q⟩
     ·injection e
     ·injection q
  exact rwG (e x d q) (rwG (e y d' q') rfl)
 have hfr' := hfr₁ _ hfr
 obtain ⟨L, hloc⟩ : ∃ L, env.locals = L := ⟨_, rfl⟩
 rw [hloc] at hf hLn
 have hkind := S.fn
 obtain ⟨s1, s2, s3, s4, s5, t, wn, p1, l1, f1, p2, p3, nx, np, a1, l2, f2, p4, a3, p5, p6, p7, s7, s8, hb, F⟩ := stepsM_inv (m_steps w.params)
 generalize (fdOf (KK w.params) 171).scope.names = names at hnames F
 refine rwG hb ?_
 have C := cx2 (prog := prog) W (hA'.less (by decide : 3 <= 6))
 have hself := hvals 0 "stack" _ rfl rfl
 have J₁ : Fr1 w hT env X (fun b => X b /\ b ≠ r) (fun b => b = r) s X' (rS0 sk l pl) s₁ := ⟨S, fun b x y => ⟨x, y⟩, fun b e => e ▸ rX, hPX, fun b o _ _ e => kh k₁ b o e, fun b o _ e => ⟨o.slots, kh k₁ b o e⟩, g₁, G, G.keeps k₁, (kgens k₁).2⟩
 have okt := ok top (List.mem_of_getElem? htop)
 have oke := ok elder (List.mem_of_getElem? held)
 refine xA (outW_facts hbot) fun oT oF => ?_
 have went : ∀ {X'' : Addr -> Prop} {ρ : Ro} {σ : Shared} {sk' : List Sk} {ds : List Int} {v : Value}, Fr1 w hT env X (fun b => X b /\ b ≠ r) (fun b => b = r) s X'' ρ σ -> SelfAt env σ.heap "stack" (.ref r) -> ρ.lookup "stack" = some (.own (.list (sksD sk'))) -> Rd w.params σ.heap X'' (.list (ds.map .int)) v -> Went w X r sk' ds s v σ := by
  intro X'' ρ σ sk' ds v J hs hl hv
  refine xEA (J.st.own_val hl hs) fun r' ho h0 => ?_
  refine ho.listE' fun _ _ a b c => ?_
  have sub : ∀ b, X b -> X'' b := fun b x => by
   by_cases q : b = r
   ·refine rwG q ?_; exact a
   ·exact J.st.sub b ⟨x, q⟩
  exact ⟨J.keep, J.sg, J.os, .list rX b (c.less sub), hv.less sub⟩
 refine J₁.nx W C F.h1 hnames (w_st1 (l := l) (K := fun fl ρ => fl = .next /\ ρ = rS1 sk l pl) rfl hl ⟨rfl, rfl⟩) fun σ₂ X₂ J₂ pin₂ => ?_
 have hs₂ := pin₂ "stack" (by decide +kernel) _ hself
 refine wpAny_execs_cons (J₂.ex W C F.h2 hnames (w_st2 (sk := sk) (p := top) (m := ⟨l, l⟩) (K := fun fl ρ => (lessW (wsOf top.lead) (wsOf l) = true /\ fl = .ret (.list [.int 5]) /\ ρ.lookup "stack" = some (.own (.list (sksD (sk ++ [⟨l, l⟩]))))) \/ (lessW (wsOf top.lead) (wsOf l) = false /\ fl = .next /\ ρ = rS1 sk l pl)) rfl rfl htop (by lia) okt.ok okm.ok (fun e => .inl ⟨e, rfl, rfl⟩) (fun e => .inr ⟨e, rfl, rfl⟩)) fun fl σ₃ fl' ρ₃ X₃ hK J₃ hf₃ pin₃ => ?_)
 have hs₃ := pin₃ "stack" (by decide +kernel) _ hs₂
 rcases hK with ⟨e5, rfl, hl₃⟩ | ⟨e5, rfl, rfl⟩
 ·cases fl <;> first | exact hf₃.elim | skip
  exact h5 e5 _ _ (went J₃ hs₃ hl₃ hf₃)
 cases fl <;> first | exact hf₃.elim | skip
 refine J₃.nx W C F.h3 hnames (w_st3 (K := fun fl ρ => fl = .next /\ ρ = rS2 sk l pl) ⟨rfl, rfl⟩) fun σ₄ X₄ J₄ pin₄ => ?_
 have hs₄ := pin₄ "stack" (by decide +kernel) _ hs₃
 refine J₄.nx W C F.h4 hnames (w_st4 (sk := sk) (l := l) (pl := pl) (m := ⟨l, l⟩) (out := outW (wsOf l) sk) (K := fun fl ρ => fl = .next /\ ρ = stR sk l pl ⟨l, l⟩ (outW (wsOf l) sk)) rfl (by lia) okm.ok (fun p hp => (ok p hp).ok) hbot oT oF ⟨rfl, rfl⟩) fun σ₅ X₅ J₅ pin₅ => ?_
 have hs₅ := pin₅ "stack" (by decide +kernel) _ hs₄
 refine J₅.nx W C F.h5 hnames (w_st5 (sk := sk) (l := l) (pl := pl) (m := ⟨l, l⟩) (out := outW (wsOf l) sk) (K := fun fl ρ => fl = .next /\ ρ = rS3 sk l pl elder) (by lia) hbot held ⟨rfl, rfl⟩) fun σ₆ X₆ J₆ pin₆ => ?_
 have hs₆ := pin₆ "stack" (by decide +kernel) _ hs₅
 refine wpAny_execs_cons (wpAny_If (noE ((evA C c_st6t).2.use F.ht rfl hnames J₆.st (t_st6 (p := elder) (m := ⟨l, l⟩) (q := fun b => b = !eqW (wsOf elder.lead) (wsOf l)) rfl rfl rfl) fun b σ₇ k₇ S₇ hb₇ => ?_)))
 have J₇ := J₆.keeps k₇
 have hs₇ : SelfAt env σ₇.heap "stack" (.ref r) := (Pin.all (N := fun _ => True) (kh k₇)) "stack" trivial _ hs₆
 subst hb₇
 cases e6 : eqW (wsOf elder.lead) (wsOf l) with
 | true =>
  refine wpAny_execs_nil ?_
  refine J₇.nx W C F.h7 hnames (w_st7 (sk := sk) (out := outW (wsOf l) sk) (K := fun fl ρ => fl = .next /\ ρ = _) rfl rfl (by lia) hbot ⟨rfl, rfl⟩) fun σ₈ X₈ J₈ pin₈ => ?_
  have hs₈ := pin₈ "stack" (by decide +kernel) _ hs₇
  refine J₈.rt W C F.h8 hnames (w_st8 (out := outW (wsOf l) sk) (K := fun fl ρ => fl = .ret (.list ((List.replicate (outW (wsOf l) sk) (6 : Int)).map .int)) /\ ρ = _) rfl (by lia) ⟨rfl, rfl⟩) fun _ σ₉ X₉ J₉ hf₉ pin₉ => ?_
  have hs₉ := pin₉ "stack" (by decide +kernel) _ hs₈
  exact h6 e5 e6 _ _ (went J₉ hs₉ rfl hf₉)
 | false =>
  obtain ⟨wN, hwN⟩ : ∃ a, a = wordsN (wsOf top.lead) (wsOf l) := ⟨_, rfl⟩
  have bA : wN.length <= 350000 := by
   refine xA (tsW_len (f := geI) okt.cs okm.cs okt.tr okm.tr) fun b1 b2 => ?_
   have := fwS_len b1 b2
   refine rwG hwN ?_
   unfold wordsN
   rw [Str.length_append, show (ofString "not greater ").length = 12 by decide]; lia
  refine wpAny_execs_cons (wpAny_Assign_Name (J₇.cat W hA' F.hl1 rfl F.hf1 hnames (a := ofString "not greater ") rfl (w_sw1 (sk := sk) (p := top) (m := ⟨l, l⟩) rfl rfl htop (by lia) okt.ok okm.ok) (by decide) (tsW_len okt.cs okm.cs okt.tr okm.tr).1 (tsW_len okt.cs okm.cs okt.tr okm.tr).2 fun σ₈ t₈ J₈ sf₈ kg₈ => ?_) (no_swap rfl))
  refine noE (store_v (N := fun y => y = "stack") (fun y e q => by rw [e] at q; exact absurd q (by decide)) F.hw hnames J₈.st (kr _) (hwN ▸ .str (wordsN (wsOf top.lead) (wsOf l)) t₈ : Rd w.params σ₈.heap X₆ (.str wN) _) fun σ₉ kb₉ S₉ => ?_)
  have J₉ := J₈.moved W S₉ kb₉ Grow.rfl
  have hs₉ := kb₉.pin "stack" rfl _ (sf₈ _ _ hs₇)
  have e1 : starEach [a1, .BinOp l2 .Add f2 p4, a3] env = [(false, eval a1 env), (false, eval (.BinOp l2 .Add f2 p4) env), (false, eval a3 env)] := by
   refine rwG (star_of F.ha1) ?_
   show _ :: _ :: starEach [a3] env = _
   refine rwG (star_of F.ha3) ?_
   rfl
  have e2 : backTo p5 (starEach [a1, .BinOp l2 .Add f2 p4, a3] env) = [(false, eval a1 env), (false, eval (.BinOp l2 .Add f2 p4) env), (false, eval a3 env)] := by
   refine rwG e1 ?_; rfl
  refine wpAny_execs_cons (nag_raise W (hA'.less (by decide)) J₉.st hnames F.hx (by refine rwG e2 ?_; rfl) fun σ₁₀ k₁₀ S₁₀ => ?_)
  have J₁₀ := J₉.keeps k₁₀
  have pin : ∀ {σ σ' : Shared} {x : String} {v : Value}, Keeps σ σ' -> SelfAt env σ.heap x v -> SelfAt env σ'.heap x v := fun {σ σ' x v} k q => (Pin.all (N := fun _ => True) (kh k)) x trivial v q
  have hs₁₀ := pin k₁₀ hs₉
  refine rwG e2 ?_
  refine Calls.evalArgs_plain (Calls.spliced_cons (noE ((evA C (.var "place")).1.use F.ha1 hnames J₁₀.st (K := fun d => d = .int pl) rfl fun u₁₁ σ₁₁ d₁₁ k₁₁ S₁₁ hK₁₁ hr₁₁ _ => ?_)))
  subst hK₁₁
  have J₁₁ := J₁₀.keeps k₁₁
  have hs₁₁ := pin k₁₁ hs₁₀
  refine (hr₁₁.rd rfl).intE fun t₁ => ?_
  have hlen2 : (wN ++ ofString "; not equal ").length <= 400000 := by
   rw [Str.length_append, show (ofString "; not equal ").length = 12 by decide]; lia
  refine Calls.spliced_cons (J₁₁.cat W hA' (a := wN ++ ofString "; not equal ") F.hl2 rfl F.hf2 hnames (w_sl2 rfl bA) (w_sw2 (p := elder) (m := ⟨l, l⟩) rfl rfl oke.ok okm.ok) hlen2 (tsW_len oke.cs okm.cs oke.tr okm.tr).1 (tsW_len oke.cs okm.cs oke.tr okm.tr).2 fun σ₁₂ t₁₂ J₁₂ sf₁₂ kg₁₂ => ?_)
  have hs₁₂ := sf₁₂ _ _ hs₁₁
  refine Calls.spliced_cons (noE ((evA C (.var "line")).1.use F.ha3 hnames J₁₂.st (K := fun d => d = .str (st l)) rfl fun u₁₃ σ₁₃ d₁₃ k₁₃ S₁₃ hK₁₃ hr₁₃ _ => Calls.spliced_nil ?_))
  subst hK₁₃
  have J₁₃ := J₁₂.keeps k₁₃
  have hs₁₃ := pin k₁₃ hs₁₂
  refine (hr₁₃.rd rfl).strE fun t₃ => ?_
  refine ⟨_, _, _, rfl, J₁₃.st.base, fun h' tk e dx te N he hdx keep => ?_⟩
  have hAll : wordsA (wsOf top.lead) (wsOf elder.lead) (wsOf l) = (wN ++ ofString "; not equal ") ++ fwS (tsW neI (wsOf elder.lead) (wsOf l)) := by refine rwG hwN ?_; rfl
  exact steps_leave W O hPX G own hfun hfx rX hfr' hLn hf hloc hkind J₁₃ hs₁₃ rfl (fun e dx B s' F => hE e5 e6 e dx B s' t₁ t₁₂ t₃ (hAll ▸ F)) N he hdx keep
noncomputable def wt : List (Ws × List Int) := [(⟨0, 0, 0, []⟩, [0, 0, 0, 0, 0, 0, 0]), (⟨1, 0, 1, []⟩, [1, 1, 1, 1, 1, 1, 1]), (⟨1, 1, 0, [1]⟩, [1, 2, 3, 4, 5, 6, 7]), (⟨2, 0, 2, []⟩, [2, 2, 2, 2, 2, 2, 2]), (⟨2, 1, 0, [0, 1]⟩, [2, 2, 3, 4, 5, 6, 7]), (⟨2, 1, 1, [1]⟩, [2, 3, 4, 5, 6, 7, 8]), (⟨2, 2, 0, [2]⟩, [2, 4, 6, 8, 10, 12, 14]), (⟨3, 0, 3, []⟩, [3, 3, 3, 3, 3, 3, 3]), (⟨3, 1, 0, [0, 0, 1]⟩, [3, 4, 3, 4, 5, 6, 7]), (⟨3, 1, 1, [0, 1]⟩, [3, 3, 4, 5, 6, 7, 8]), (⟨3, 2, 0, [1, 1]⟩, [3, 4, 6, 8, 10, 12, 14]), (⟨3, 1, 2, [1]⟩, [3, 4, 5, 6, 7, 8, 9]), (⟨3, 2, 1, [2]⟩, [3, 5, 7, 9, 11, 13, 15]), (⟨3, 3, 0, [3]⟩, [3, 6, 9, 12, 15, 18, 21]), (⟨4, 0, 4, []⟩, [4, 4, 4, 4, 4, 4, 4]), (⟨4, 1, 0, [0, 0, 0, 1]⟩, [4, 4, 6, 4, 5, 6, 7]), (⟨4, 1, 1, [0, 0, 1]⟩, [4, 5, 4, 5, 6, 7, 8]), (⟨4, 2, 0, [1, 0, 1]⟩, [4, 6, 6, 8, 10, 12, 14]), (⟨4, 1, 2, [0, 1]⟩, [4, 4, 5, 6, 7, 8, 9]), (⟨4, 2, 0, [0, 2]⟩, [4, 4, 6, 8, 10, 12, 14]), (⟨4, 2, 1, [1, 1]⟩, [4, 5, 7, 9, 11, 13, 15]), (⟨4, 3, 0, [2, 1]⟩, [4, 6, 9, 12, 15, 18, 21]), (⟨4, 1, 3, [1]⟩, [4, 5, 6, 7, 8, 9, 10]), (⟨4, 2, 2, [2]⟩, [4, 6, 8, 10, 12, 14, 16]), (⟨4, 3, 1, [3]⟩, [4, 7, 10, 13, 16, 19, 22]), (⟨4, 4, 0, [4]⟩, [4, 8, 12, 16, 20, 24, 28]), (⟨5, 0, 5, []⟩, [5, 5, 5, 5, 5, 5, 5]), (⟨5, 1, 0, [0, 0, 0, 0, 1]⟩, [5, 6, 6, 8, 5, 6, 7]), (⟨5, 1, 1, [0, 0, 0, 1]⟩, [5, 5, 7, 5, 6, 7, 8]), (⟨5, 2, 0, [1, 0, 0, 1]⟩, [5, 6, 9, 8, 10, 12, 14]), (⟨5, 1, 2, [0, 0, 1]⟩, [5, 6, 5, 6, 7, 8, 9]), (⟨5, 2, 0, [0, 1, 1]⟩, [5, 6, 6, 8, 10, 12, 14]), (⟨5, 2, 1, [1, 0, 1]⟩, [5, 7, 7, 9, 11, 13, 15]), (⟨5, 3, 0, [2, 0, 1]⟩, [5, 8, 9, 12, 15, 18, 21]), (⟨5, 1, 3, [0, 1]⟩, [5, 5, 6, 7, 8, 9, 10]), (⟨5, 2, 1, [0, 2]⟩, [5, 5, 7, 9, 11, 13, 15]), (⟨5, 3, 0, [1, 2]⟩, [5, 6, 9, 12, 15, 18, 21]), (⟨5, 2, 2, [1, 1]⟩, [5, 6, 8, 10, 12, 14, 16]), (⟨5, 3, 1, [2, 1]⟩, [5, 7, 10, 13, 16, 19, 22]), (⟨5, 4, 0, [3, 1]⟩, [5, 8, 12, 16, 20, 24, 28]), (⟨5, 1, 4, [1]⟩, [5, 6, 7, 8, 9, 10, 11]), (⟨5, 2, 3, [2]⟩, [5, 7, 9, 11, 13, 15, 17]), (⟨5, 3, 2, [3]⟩, [5, 8, 11, 14, 17, 20, 23]), (⟨5, 4, 1, [4]⟩, [5, 9, 13, 17, 21, 25, 29]), (⟨5, 5, 0, [5]⟩, [5, 10, 15, 20, 25, 30, 35]), (⟨6, 0, 6, []⟩, [6, 6, 6, 6, 6, 6, 6]), (⟨6, 1, 0, [0, 0, 0, 0, 0, 1]⟩, [6, 6, 6, 8, 10, 6, 7]), (⟨6, 1, 1, [0, 0, 0, 0, 1]⟩, [6, 7, 7, 9, 6, 7, 8]), (⟨6, 2, 0, [1, 0, 0, 0, 1]⟩, [6, 8, 9, 12, 10, 12, 14]), (⟨6, 1, 2, [0, 0, 0, 1]⟩, [6, 6, 8, 6, 7, 8, 9]), (⟨6, 2, 0, [0, 1, 0, 1]⟩, [6, 6, 9, 8, 10, 12, 14]), (⟨6, 2, 1, [1, 0, 0, 1]⟩, [6, 7, 10, 9, 11, 13, 15]), (⟨6, 3, 0, [2, 0, 0, 1]⟩, [6, 8, 12, 12, 15, 18, 21]), (⟨6, 1, 3, [0, 0, 1]⟩, [6, 7, 6, 7, 8, 9, 10]), (⟨6, 2, 0, [0, 0, 2]⟩, [6, 8, 6, 8, 10, 12, 14]), (⟨6, 2, 1, [0, 1, 1]⟩, [6, 7, 7, 9, 11, 13, 15]), (⟨6, 3, 0, [1, 1, 1]⟩, [6, 8, 9, 12, 15, 18, 21]), (⟨6, 2, 2, [1, 0, 1]⟩, [6, 8, 8, 10, 12, 14, 16]), (⟨6, 3, 1, [2, 0, 1]⟩, [6, 9, 10, 13, 16, 19, 22]), (⟨6, 4, 0, [3, 0, 1]⟩, [6, 10, 12, 16, 20, 24, 28]), (⟨6, 1, 4, [0, 1]⟩, [6, 6, 7, 8, 9, 10, 11]), (⟨6, 2, 2, [0, 2]⟩, [6, 6, 8, 10, 12, 14, 16]), (⟨6, 3, 0, [0, 3]⟩, [6, 6, 9, 12, 15, 18, 21]), (⟨6, 3, 1, [1, 2]⟩, [6, 7, 10, 13, 16, 19, 22]), (⟨6, 4, 0, [2, 2]⟩, [6, 8, 12, 16, 20, 24, 28]), (⟨6, 2, 3, [1, 1]⟩, [6, 7, 9, 11, 13, 15, 17]), (⟨6, 3, 2, [2, 1]⟩, [6, 8, 11, 14, 17, 20, 23]), (⟨6, 4, 1, [3, 1]⟩, [6, 9, 13, 17, 21, 25, 29]), (⟨6, 5, 0, [4, 1]⟩, [6, 10, 15, 20, 25, 30, 35]), (⟨6, 1, 5, [1]⟩, [6, 7, 8, 9, 10, 11, 12]), (⟨6, 2, 4, [2]⟩, [6, 8, 10, 12, 14, 16, 18]), (⟨6, 3, 3, [3]⟩, [6, 9, 12, 15, 18, 21, 24]), (⟨6, 4, 2, [4]⟩, [6, 10, 14, 18, 22, 26, 30]), (⟨6, 5, 1, [5]⟩, [6, 11, 16, 21, 26, 31, 36]), (⟨6, 6, 0, [6]⟩, [6, 12, 18, 24, 30, 36, 42])]
noncomputable def sameW (A B : Ws) : Bool := decide (A.n = B.n) && decide (A.nt = B.nt) && decide (A.tr = B.tr) && decide (A.cs = B.cs)
theorem sameW_eq {A B : Ws} (h : sameW A B = true) : A = B := by
 obtain ⟨a, b, c, d⟩ := A
 obtain ⟨a', b', c', d'⟩ := B
 unfold sameW at h
 simp only [Bool.and_eq_true, decide_eq_true_eq] at h
 apply xAq2L h; intro z1q; (try clear h); obtain ⟨⟨rfl, rfl⟩, rfl⟩ := z1q
 rfl
theorem wt_all : (leads.all fun l => wt.any fun p => sameW (wsOf l) p.1 && decide (cols l = p.2)) = true := by decide +kernel
noncomputable def chkW (p q : Ws × List Int) : Bool := (lessW p.1 q.1 == under p.2 q.2) && (eqW p.1 q.1 == decide (p.2 = q.2))
theorem wt_two : (wt.all fun p => wt.all fun q => chkW p q) = true := by decide +kernel
theorem wt_lv : (wt.all fun p => decide (p.2 = (List.range 7).map fun i => ((lvl p.1 (1 + i) : Nat) : Int))) = true := by decide +kernel
theorem wt_one : (wt.all fun p => decide (p.1.cs.length <= 90) && decide (p.1.tr <= 90) && decide (p.2.length = 7) && decide ((lng p.1).toNat <= 6)) = true := by decide +kernel
theorem wt_mem (h : Lead l) : (wsOf l, cols l) ∈ wt := by
 have := lead_all wt_all h
 refine xEA (any_eq_true.mp this) fun p hp e => ?_
 rw [Bool.and_eq_true] at e
 have e1 := sameW_eq e.1
 have e2 := of_decide_eq_true e.2
 refine rwG e1 (rwG e2 ?_)
 exact hp
theorem wt_bound (h : Lead l) : WsB (wsOf l) := by
 have := all_eq_true.mp wt_one _ (wt_mem h)
 simp only [Bool.and_eq_true, decide_eq_true_eq] at this
 exact ⟨this.1.1.1, this.1.1.2⟩
theorem numT_digit : (List.range 7).all (fun i => decide (numT (1 + i) = digit i)) = true := by decide +kernel
theorem fw_words {run : Nat} (h : run <= 6) : fwS (((List.range (run + 1)).filter fun i => hits.getD i false).map (1 + ·)) = wordsS run hits := by
 unfold fwS wordsS
 have e1 : (((List.range (run + 1)).filter fun i => hits.getD i false).map (1 + ·)).map numT = saidS run hits := by
  unfold saidS
  refine rwG map_map ?_
  refine map_congr_left fun i hi => ?_
  have hi' : i < 7 := by
   have := mem_range.mp (mem_filter.mp hi).1
   lia
  exact of_decide_eq_true (all_eq_true.mp numT_digit i (mem_range.mpr hi'))
 refine rwG e1 ?_
 congr 1
 have e2 : (((List.range (run + 1)).filter fun i => hits.getD i false).map (1 + ·)).length = (saidS run hits).length := by
  unfold saidS
  rw [length_map, length_map]
 refine rwG e2 ?_
 unfold fwP
 split
 ·decide +kernel
 ·rfl
structure LeadTwo (a b : List Nat) : Prop where
 less : lessW (wsOf a) (wsOf b) = under (cols a) (cols b)
 eq : eqW (wsOf a) (wsOf b) = decide (cols a = cols b)
 ge : fwS (tsW geI (wsOf a) (wsOf b)) = wordsS (runs2 a b) (hitsG a b)
 ne : fwS (tsW neI (wsOf a) (wsOf b)) = wordsS (runs2 a b) (hitsN a b)
theorem ts_col (f : Int -> Int -> Bool) {A B : Ws} {x y : List Int} (hx : x = (List.range 7).map fun i => ((lvl A (1 + i) : Nat) : Int)) (hy : y = (List.range 7).map fun i => ((lvl B (1 + i) : Nat) : Int)) (h : max (lng A).toNat (lng B).toNat <= 6) :
  tsW f A B = ((List.range (max (lng A).toNat (lng B).toNat + 1)).filter fun i => ((x.zip y).map fun z => f z.1 z.2).getD i false).map (1 + ·) := by
 have e : (mx A B).toNat = max (lng A).toNat (lng B).toNat := by
  unfold mx
  split <;> lia
 unfold tsW
 refine rwG e (rwG List.filter_map ?_)
 refine congrArg _ (List.filter_congr fun i hi => ?_)
 have hi' : i < 7 := Nat.lt_of_lt_of_le (mem_range.mp hi) (Nat.succ_le_succ h)
 subst hx
 subst hy
 simp [List.zip_map', List.getD_eq_getElem?_getD, hi']
theorem lead_two (ha : Lead a) (hb : Lead b) : LeadTwo a b := by
 have h := all_eq_true.mp (all_eq_true.mp wt_two _ (wt_mem ha)) _ (wt_mem hb)
 unfold chkW at h
 rw [Bool.and_eq_true] at h
 have hr := (run_two ha hb).1
 have ea := of_decide_eq_true (all_eq_true.mp wt_lv _ (wt_mem ha))
 have eb := of_decide_eq_true (all_eq_true.mp wt_lv _ (wt_mem hb))
 exact ⟨eq_of_beq h.1, eq_of_beq h.2, (congrArg fwS (ts_col geI ea eb hr)).trans (fw_words hr), (congrArg fwS (ts_col neI ea eb hr)).trans (fw_words hr)⟩
theorem wsGo_app : ∀ (a b : List Nat) (W : Ws), Blank a -> (∀ c ∈ b.head?, c ≠ 32 /\ c ≠ 9) -> wsGo (a ++ b) W = wsGo a W
 | [], [], W, _, _ => rfl
 | [], c :: b, W, _, h => by
  have := h c rfl
  show wsGo (c :: b) W = wsGo [] W
  unfold wsGo
  exact rwG (if_neg this.1) (rwG (if_neg this.2) rfl)
 | c :: a, b, W, hb, h => by
  have hr : Blank a := fun d hd => hb d (mem_cons_of_mem _ hd)
  refine rwG List.cons_append ?_
  unfold wsGo
  exact rwG (wsGo_app a b _ hr h) (rwG (wsGo_app a b _ hr h) rfl)
theorem wsGo_n : ∀ (a : List Nat) (W : Ws), Blank a -> (wsGo a W).n = W.n + a.length
 | [], W, _ => rfl
 | c :: a, W, hb => by
  have hc := hb c mem_cons_self
  have hr : Blank a := fun d hd => hb d (mem_cons_of_mem _ hd)
  unfold wsGo
  rcases hc with e | e
  ·refine rwG (if_pos e) (rwG (wsGo_n a _ hr) (rwG length_cons ?_))
   show W.n + 1 + a.length = _
   lia
  ·subst e
   refine rwG (if_neg (by decide)) (rwG (if_pos rfl) (rwG (wsGo_n a _ hr) (rwG length_cons ?_)))
   show W.n + 1 + a.length = _
   lia
theorem ws_line (h : LineOk l) : wsOf l = wsOf (leadOf l) /\ (wsOf l).n = (leadOf l).length /\ l.drop (wsOf l).n = bodyAt l := by
 have H := h.at_
 have e : wsOf l = wsOf (leadOf l) := by
  have : wsOf l = wsOf (leadOf l ++ bodyAt l) := by exact rwG (Eq.symm H.eq) rfl
  refine rwG this ?_
  refine wsGo_app _ _ _ H.lead.b fun c hc => ?_
  have hm : c ∈ bodyAt l := by
   cases q : bodyAt l with
   | nil => rw [q] at hc; injection hc
   | cons d r => rw [q] at hc; obtain rfl := osi hc; exact mem_cons_self
  have := H.chars c hm
  exact ⟨this.2.1, this.2.2.1⟩
 have e2 : (wsOf l).n = (leadOf l).length := by
  refine rwG e ?_
  have := wsGo_n (leadOf l) ⟨0, 0, 0, []⟩ H.lead.b
  rw [Nat.zero_add] at this
  exact this
 refine ⟨e, e2, ?_⟩
 refine rwG e2 ?_
 have : l.drop (leadOf l).length = (leadOf l ++ bodyAt l).drop (leadOf l).length := by exact rwG (Eq.symm H.eq) rfl
 exact rwG this (rwG List.drop_left rfl)
theorem under_tr : ∀ {b c : List Int}, a.length = b.length -> b.length = c.length -> under a b = true -> under b c = true -> under a c = true := by
 induction a with
 | nil => exact fun _ _ _ _ => rfl
 | cons x a ih =>
  intro b c hb hc h1 h2
  cases b with
  | nil => exact nomatch hb
  | cons y b =>
   cases c with
   | nil => exact nomatch hc
   | cons z c => exact xA (and3 h1) fun p1 h1 => xA (and3 h2) fun p2 h2 => Bool.and_eq_true_iff.mpr ⟨decide_eq_true (Int.lt_trans (of_decide_eq_true p1) (of_decide_eq_true p2)), ih (Nat.succ.inj hb) (Nat.succ.inj hc) h1 h2⟩
theorem under_trans {a b c : List Int} (ha : a.length = 7) (hb : b.length = 7) (hc : c.length = 7) (h1 : under a b = true) (h2 : under b c = true) : under a c = true := under_tr (ha.trans hb.symm) (hb.trans hc.symm) h1 h2
theorem filter_suffix : ∀ {R : List α}, R.Pairwise (fun b a => p a = true -> p b = true) -> (R.filter p).length = (R.takeWhile p).length
 | [], _ => rfl
 | x :: R, h => by
  rw [List.pairwise_cons] at h
  refine rwG filter_cons (rwG takeWhile_cons ?_)
  cases q : p x with
  | true => exact rwG (if_pos rfl) (rwG (if_pos rfl) (rwG length_cons (rwG length_cons (rwG (filter_suffix h.2) rfl))))
  | false =>
   refine rwG (if_neg (by decide)) (rwG (if_neg (by decide)) ?_)
   have : R.filter p = [] := by
    rw [List.filter_eq_nil_iff]
    intro a ha hp
    rw [h.1 a ha hp] at q; injection q
   exact rwG this rfl
noncomputable def cutBy : List Nat -> List Nat -> List (List Nat)
 | _, [] => []
 | l, n :: ns => l.take n :: cutBy (l.drop n) ns
noncomputable def diffs : Nat -> List Nat -> List Nat
 | _, [] => []
 | a, e :: E => (e - a) :: diffs e E
noncomputable def mono : Nat -> List Nat -> Bool
 | _, [] => true
 | a, e :: E => decide (a <= e) && mono e E
theorem parts_cut {l : List Nat} : ∀ (E : List Nat) (a : Nat), mono a E = true -> ((a :: E).zip E).map (fun p => (l.drop p.1).take (p.2 - p.1)) = cutBy (l.drop a) (diffs a E)
 | [], a, _ => rfl
 | e :: E, a, h => by
  unfold mono at h
  rw [Bool.and_eq_true] at h
  have h1 := of_decide_eq_true h.1
  refine rwG zip_cons_cons (rwG map_cons (rwG (parts_cut E e h.2) ?_))
  show _ :: cutBy (l.drop e) (diffs e E) = (l.drop a).take (e - a) :: cutBy ((l.drop a).drop (e - a)) (diffs e E)
  exact rwG List.drop_drop (rwG (show a + (e - a) = e by lia) rfl)
noncomputable def sumN : List Nat -> Nat
 | [] => 0
 | n :: r => n + sumN r
theorem cut_sizes : ∀ (ns : List Nat) (l : List Nat), sumN ns <= l.length -> (cutBy l ns).map List.length = ns
 | [], _, _ => rfl
 | n :: ns, l, h => by
  unfold sumN at h
  unfold cutBy
  rw [map_cons, cut_sizes ns _ (by refine rwG length_drop ?_; lia), length_take, Nat.min_eq_left (by lia)]
noncomputable def comps : Nat -> Nat -> List (List Nat)
 | 0, _ => [[]]
 | _, 0 => []
 | L + 1, f + 1 => (comps L f).map (1 :: ·) ++ (if 2 <= L + 1 then (comps (L - 1) f).map (2 :: ·) else []) ++ (if 3 <= L + 1 then (comps (L - 2) f).map (3 :: ·) else [])
noncomputable def okC (L m : Nat) : Bool := mono 0 (endsC L m) && decide (sumN (diffs 0 (endsC L m)) = L) && (diffs 0 (endsC L m)).all fun n => decide (1 <= n)
theorem masks_ok : ([1, 2, 3, 4, 5, 6] : List Nat).all (fun L => (List.range (2 ^ (L - 1))).all fun m => okC L m) = true := by decide +kernel
theorem masks_all : ([1, 2, 3, 4, 5, 6] : List Nat).all (fun L => (comps L L).all fun ns => (List.range (2 ^ (L - 1))).any fun m => decide (diffs 0 (endsC L m) = ns)) = true := by decide +kernel
theorem in_six (h1 : 1 <= L) (h2 : L <= 6) : L ∈ ([1, 2, 3, 4, 5, 6] : List Nat) := by
 have : L = 1 \/ L = 2 \/ L = 3 \/ L = 4 \/ L = 5 \/ L = 6 := by lia
 rcases this with rfl | rfl | rfl | rfl | rfl | rfl <;> decide
noncomputable def gsz : Nat -> List Nat -> List Nat
 | 0, _ => []
 | n + 1, r => if r = [] then [] else g1 r :: gsz n (r.drop (g1 r))
theorem gsz_cut : ∀ (n : Nat) (r : List Nat), greedy n r = cutBy r (gsz n r)
 | 0, _ => rfl
 | n + 1, [] => rfl
 | n + 1, c :: r => by
  show (c :: r).take (g1 (c :: r)) :: greedy n ((c :: r).drop (g1 (c :: r))) = cutBy (c :: r) (if c :: r = [] then [] else g1 (c :: r) :: gsz n ((c :: r).drop (g1 (c :: r))))
  rw [if_neg (by simp), gsz_cut n]
  rfl
theorem gsz_comps : ∀ (n : Nat) (r : List Nat), r.length <= n -> gsz n r ∈ comps r.length n
 | 0, r, h => by
  cases r with
  | nil => exact mem_singleton.mpr rfl
  | cons _ _ => simp at h
 | n + 1, r, h => by
  unfold gsz
  split
  ·rename_i e
   subst e
   exact mem_singleton.mpr rfl
  ·rename_i e
   have hle := g1_le e
   have hpos := g1_pos r
   have ih := gsz_comps n (r.drop (g1 r)) (by refine rwG length_drop ?_; lia)
   rw [length_drop] at ih
   have hg : g1 r = 1 \/ g1 r = 2 \/ g1 r = 3 := by
    unfold g1
    split
    ·exact .inr (.inr rfl)
    ·split
     ·exact .inr (.inl rfl)
     ·exact .inl rfl
   obtain ⟨L, hL⟩ : ∃ L, r.length = L + 1 := ⟨r.length - 1, by lia⟩
   rw [hL] at ih hle ⊢
   unfold comps
   rw [mem_append, mem_append]
   rcases hg with q | q | q <;> rw [q] at ih hle ⊢
   ·exact .inl (.inl (mem_map.mpr ⟨_, ih, rfl⟩))
   ·refine .inl (.inr ?_)
    refine rwG (if_pos hle) ?_
    exact mem_map.mpr ⟨_, by refine rwG (show L - 1 = L + 1 - 2 by lia) ?_; exact ih, rfl⟩
   ·refine .inr ?_
    refine rwG (if_pos hle) ?_
    exact mem_map.mpr ⟨_, by refine rwG (show L - 2 = L + 1 - 3 by lia) ?_; exact ih, rfl⟩
theorem op_le3 (h : op p = true) : p.length <= 3 := (op_at (contains_iff_mem.mp h)).1.2
noncomputable def intZ (ns : List Nat) : List Int := ns.map fun (n : Nat) => (n : Int)
theorem gsz_max : ∀ (n : Nat) (r ns : List Nat), r.length <= n -> (∀ c ∈ r, op [c] = true) -> sumN ns = r.length -> (∀ m ∈ ns, 1 <= m) -> (cutBy r ns).all op = true -> ns = gsz n r \/ gtL (intZ (gsz n r)) (intZ ns) = true
 | 0, r, ns, h, _, hs, h1, _ => by
  cases r with
  | cons _ _ => simp at h
  | nil =>
   cases ns with
   | nil => exact .inl rfl
   | cons m ns =>
    have := h1 m mem_cons_self
    unfold sumN at hs
    simp at hs
    lia
 | n + 1, r, ns, h, hc, hs, h1, ho => by
  unfold gsz
  split
  ·rename_i e
   subst e
   cases ns with
   | nil => exact .inl rfl
   | cons m ns =>
    have := h1 m mem_cons_self
    unfold sumN at hs
    simp at hs
    lia
  ·rename_i e
   have hrl : 0 < r.length := List.length_pos_iff.mpr e
   cases ns with
   | nil => unfold sumN at hs; lia
   | cons m ns =>
    have hm := h1 m mem_cons_self
    unfold sumN at hs
    unfold cutBy at ho
    rw [all_cons, Bool.and_eq_true] at ho
    have hm3 := op_le3 ho.1
    rw [length_take, Nat.min_eq_left (by lia)] at hm3
    have hmg : m <= g1 r := by
     unfold g1
     split
     ·lia
     ·rename_i q3
      split
      ·rename_i q2
       have : ¬ m = 3 := fun z => q3 ⟨by lia, by refine rwG (Eq.symm z) ?_; exact ho.1⟩
       lia
      ·rename_i q2
       have a3 : ¬ m = 3 := fun z => q3 ⟨by lia, by refine rwG (Eq.symm z) ?_; exact ho.1⟩
       have a2 : ¬ m = 2 := fun z => q2 ⟨by lia, by refine rwG (Eq.symm z) ?_; exact ho.1⟩
       lia
    rcases Nat.lt_or_ge m (g1 r) with q | q
    ·refine .inr ?_
     unfold intZ
     refine rwG map_cons (rwG map_cons ?_)
     unfold gtL
     have : ((g1 r : Nat) : Int) > (m : Int) := by lia
     refine rwG (if_neg (by lia)) ?_
     exact decide_eq_true this
    ·have e' : m = g1 r := by lia
     subst e'
     rcases gsz_max n (r.drop (g1 r)) ns (by refine rwG length_drop ?_; lia) (fun c hcc => hc c (mem_of_mem_drop hcc)) (by refine rwG length_drop ?_; lia) (fun k hk => h1 k (mem_cons_of_mem _ hk)) ho.2 with z | z
     ·exact .inl (by exact rwG (Eq.symm z) rfl)
     ·refine .inr ?_
      unfold intZ at z ⊢
      refine rwG map_cons (rwG map_cons ?_)
      unfold gtL
      refine rwG (if_pos rfl) ?_
      exact z
theorem gtL_irr : ∀ a : List Int, gtL a a = false
 | [] => rfl
 | x :: a => by unfold gtL; refine rwG (if_pos rfl) ?_; exact gtL_irr a
theorem gtL_asym : ∀ a b : List Int, gtL a b = true -> gtL b a = false
 | [], _, h => by injection h
 | x :: a, [], _ => rfl
 | x :: a, y :: b, h => by
  unfold gtL at h ⊢
  by_cases e : x = y
  ·rw [if_pos e] at h
   refine rwG (if_pos e.symm) ?_
   exact gtL_asym a b h
  ·rw [if_neg e] at h
   refine rwG (if_neg (Ne.symm e)) ?_
   have := of_decide_eq_true h
   exact decide_eq_false (by lia)
theorem greedy_op : ∀ (n : Nat) (r : List Nat), (∀ c ∈ r, op [c] = true) -> (greedy n r).all op = true
 | 0, _, _ => rfl
 | n + 1, [], _ => rfl
 | n + 1, c :: r, h => by
  show ((c :: r).take (g1 (c :: r)) :: greedy n ((c :: r).drop (g1 (c :: r)))).all op = true
  rw [all_cons, Bool.and_eq_true]
  exact ⟨g1_op (by simp) h, greedy_op n _ fun d hd => h d (mem_of_mem_drop hd)⟩
theorem parts_at (h1 : 1 <= l.length) (h2 : l.length <= 6) (hm : m < 2 ^ (l.length - 1)) :
  partsC l m = cutBy l (diffs 0 (endsC l.length m)) /\ sizesC l m = intZ (diffs 0 (endsC l.length m)) /\ sumN (diffs 0 (endsC l.length m)) = l.length /\ ∀ n ∈ diffs 0 (endsC l.length m), 1 <= n := by
 have := all_eq_true.mp (all_eq_true.mp masks_ok _ (in_six h1 h2)) m (mem_range.mpr hm)
 unfold okC at this
 simp only [Bool.and_eq_true, decide_eq_true_eq, all_eq_true] at this
 refine xA this fun z1q c => ?_; (try clear this); obtain ⟨a, b⟩ := z1q
 have e : partsC l m = cutBy l (diffs 0 (endsC l.length m)) := by
  unfold partsC
  exact parts_cut _ _ a
 refine ⟨e, ?_, b, c⟩
 unfold sizesC intZ
 rw [e]
 have := cut_sizes (diffs 0 (endsC l.length m)) l (by lia)
 conv => rhs; rw [<- this]
 refine rwG map_map ?_
 rfl
theorem cut_greedy (h1 : 1 <= l.length) (h2 : l.length <= 6) (hc : ∀ c ∈ l, op [c] = true) : cutS l = numbersS l := by
 have hg := gsz_comps l.length l (Nat.le_refl _)
 refine xEA (any_eq_true.mp (all_eq_true.mp (all_eq_true.mp masks_all _ (in_six h1 h2)) _ hg)) fun m0 hm0 e0 => ?_
 have e0 := of_decide_eq_true e0
 have hm0' := mem_range.mp hm0
 have hgne : gsz l.length l ≠ [] := fun q => by
  have := (parts_at h1 h2 hm0').2.2.1
  rw [e0, q] at this
  unfold sumN at this
  lia
 let G : List Int × List Int := (intZ (gsz l.length l), numbersS l)
 have val : ∀ m, m < 2 ^ (l.length - 1) -> (partsC l m).all op = true -> (sizesC l m, (partsC l m).map num) = G \/ gtL G.1 (sizesC l m) = true := fun m hm ho => by
  refine xAAA (parts_at h1 h2 hm) fun p1 p2 p3 p4 => ?_
  rw [p1] at ho
  rcases gsz_max l.length l _ (Nat.le_refl _) hc p3 p4 ho with q | q
  ·refine .inl ?_
   show _ = (intZ (gsz l.length l), numbersS l)
   rw [p2, p1, q]
   unfold numbersS
   rw [gsz_cut]
  ·refine .inr ?_
   rw [p2]; exact q
 have key : ∀ (ms : List Nat) (bt : List Int × List Int), (∀ m ∈ ms, m < 2 ^ (l.length - 1)) -> (bt = G \/ (gtL G.1 bt.1 = true /\ m0 ∈ ms)) -> ms.foldl (stepC l) bt = G := by
  intro ms
  induction ms with
  | nil =>
   intro bt _ h
   rcases h with h | h
   ·exact h
   ·cases h.2
  | cons m ms ih =>
   intro bt hm h
   rw [foldl_cons]
   refine ih _ (fun k hk => hm k (mem_cons_of_mem _ hk)) ?_
   have hmm := hm m mem_cons_self
   unfold stepC
   rcases h with h | ⟨h, hmem⟩
   ·refine .inl ?_
    subst h
    rw [if_neg ?_]
    intro q
    rw [Bool.and_eq_true] at q
    rcases val m hmm q.2 with z | z
    ·have z1 := congrArg Prod.fst z
     have : gtL (sizesC l m) G.1 = gtL G.1 G.1 := by exact rwG (Eq.symm z1) rfl
     rw [this, gtL_irr] at q
     injection q.1
    ·have := gtL_asym _ _ z
     rw [this] at q
     injection q.1
   ·by_cases e : m = m0
    ·refine .inl ?_
     subst e
     refine xAAA (parts_at h1 h2 hm0') fun p1 p2 _ _ => ?_
     have ev : (sizesC l m, (partsC l m).map num) = G := by
      show _ = (intZ (gsz l.length l), numbersS l)
      rw [p2, p1, e0]
      unfold numbersS
      rw [gsz_cut]
     have z1 : sizesC l m = G.1 := congrArg Prod.fst ev
     have ho : (partsC l m).all op = true := by
      rw [p1, e0, <- gsz_cut]
      exact greedy_op _ _ hc
     rw [if_pos (by rw [z1, h, ho]; rfl)]
     exact ev
    ·have hmem' : m0 ∈ ms := by
      rcases mem_cons.mp hmem with q | q
      ·exact absurd q.symm e
      ·exact q
     split
     ·rename_i q
      rw [Bool.and_eq_true] at q
      rcases val m hmm q.2 with z | z
      ·exact .inl z
      ·exact .inr ⟨z, hmem'⟩
     ·exact .inr ⟨h, hmem'⟩
 unfold cutS
 rw [key (List.range (2 ^ (l.length - 1))) ([], []) (fun m hm => mem_range.mp hm) (.inr ⟨?_, hm0⟩)]
 show gtL (intZ (gsz l.length l)) [] = true
 cases q : gsz l.length l with
 | nil => exact absurd q hgne
 | cons a b => rfl
noncomputable def sfx : List Int -> Int
 | [] => 0
 | m :: r => max ((m :: r).sum) (sfx r)
noncomputable def dstep (d m : Int) : Int := max (d + m) 0
theorem sfx_snoc (a : List Int) (m : Int) : sfx (a ++ [m]) = dstep (sfx a) m := by
 induction a with
 | nil =>
  show max ([m].sum) 0 = max (0 + m) 0
  rw [List.sum_singleton, Int.zero_add]
 | cons x a ih =>
  show max ((x :: (a ++ [m])).sum) (sfx (a ++ [m])) = max (max ((x :: a).sum) (sfx a) + m) 0
  rw [ih, <- Int.max_add_right, Int.max_assoc, <- List.cons_append, List.sum_append, List.sum_singleton]
  rfl
theorem sfx_app : ∀ (b a : List Int), sfx (a ++ b) = b.foldl dstep (sfx a)
 | [], a => by rw [append_nil]; rfl
 | m :: b, a => by
  rw [foldl_cons, <- sfx_snoc, <- sfx_app b (a ++ [m]), append_assoc]
  rfl
theorem sfx_nonneg : ∀ a : List Int, 0 <= sfx a
 | [] => by decide
 | m :: r => by
  show 0 <= max _ (sfx r)
  have := sfx_nonneg r
  lia
theorem fold_max : ∀ (L : List Int) (x y : Int), L.foldl max (max x y) = max x (L.foldl max y)
 | [], _, _ => rfl
 | z :: L, x, y => by rw [foldl_cons, foldl_cons, <- fold_max L x (max y z), Int.max_assoc]
theorem maxL_cons (h : maxL L = some s) : maxL (x :: L) = some (max x s) := by
 cases L with
 | nil => injection h
 | cons y L =>
  obtain rfl := osi h
  show some (L.foldl max (max x y)) = _
  rw [fold_max]
theorem maxL_sfx : ∀ ms : List Int, maxL ((List.range (ms.length + 1)).map fun i => (ms.drop i).sum) = some (sfx ms)
 | [] => rfl
 | m :: r => by
  have ih := maxL_sfx r
  refine rwG length_cons (rwG List.range_succ_eq_map (rwG map_cons (rwG map_map ?_)))
  have e : (List.range (r.length + 1)).map ((fun i => (((m :: r).drop i).sum)) ∘ Nat.succ) = (List.range (r.length + 1)).map fun i => (r.drop i).sum := by
   refine map_congr_left fun i _ => ?_
   rfl
  refine rwG e ?_
  exact maxL_cons ih
theorem depth_sfx (l : List Nat) : depthS l = sfx (marks l) := by
 unfold depthS
 rw [maxL_sfx]
 rfl
theorem marks_app (a b : List Nat) : marks (a ++ b) = marks a ++ marks b := by
 unfold marks
 rw [List.filter_append, map_append]
noncomputable def deepT (d t : Int) : Int := if t ∈ [7, 9, 25] then d + 1 else if t ∈ [8, 10, 26] /\ d > 0 then d - 1 else d
theorem ops_marks : (ops.all fun p => decide (marks p = if num p ∈ [7, 9, 25] then [1] else if num p ∈ [8, 10, 26] then [-1] else [])) = true := by decide +kernel
theorem marks_op (h : op p = true) (hd : 0 <= d) : (marks p).foldl dstep d = deepT d (num p) /\ 0 <= deepT d (num p) := by
 have := of_decide_eq_true (all_eq_true.mp ops_marks p (contains_iff_mem.mp h))
 refine rwG this ?_
 unfold deepT
 by_cases h1 : num p ∈ [7, 9, 25]
 ·refine rwG (if_pos h1) (rwG (if_pos h1) ?_)
  refine ⟨?_, by lia⟩
  show max (d + 1) 0 = d + 1
  lia
 ·refine rwG (if_neg h1) (rwG (if_neg h1) ?_)
  by_cases h2 : num p ∈ [8, 10, 26]
  ·refine rwG (if_pos h2) ?_
   by_cases h3 : d > 0
   ·refine rwG (if_pos ⟨h2, h3⟩) ?_
    refine ⟨?_, by lia⟩
    show max (d + -1) 0 = d - 1
    lia
   ·refine rwG (if_neg (fun q => h3 q.2)) ?_
    refine ⟨?_, hd⟩
    show max (d + -1) 0 = d
    lia
  ·refine rwG (if_neg h2) (rwG (if_neg (fun q => h2 q.1)) ?_)
   exact ⟨rfl, hd⟩
theorem deep_parts : ∀ (ps : List (List Nat)) (d : Int), ps.all op = true -> 0 <= d -> (marks ps.flatten).foldl dstep d = (ps.map num).foldl deepT d
 | [], d, _, _ => rfl
 | p :: ps, d, h, hd => by
  rw [all_cons, Bool.and_eq_true] at h
  rw [flatten_cons, marks_app, List.foldl_append, (marks_op h.1 hd).1, map_cons, foldl_cons]
  exact deep_parts ps _ h.2 (marks_op h.1 hd).2
theorem greedy_flat : ∀ (n : Nat) (r : List Nat), r.length <= n -> (greedy n r).flatten = r
 | 0, [], _ => rfl
 | 0, _ :: _, h => by simp at h
 | n + 1, [], _ => rfl
 | n + 1, c :: r, h => by
  show ((c :: r).take (g1 (c :: r)) :: greedy n ((c :: r).drop (g1 (c :: r)))).flatten = c :: r
  have := g1_pos (c :: r)
  rw [flatten_cons, greedy_flat n _ (by refine rwG length_drop ?_; lia), List.take_append_drop]
theorem depth_read (h : ∀ c ∈ body, op [c] = true) : depthS (done ++ body) = (numbersS body).foldl deepT (depthS done) := by
 rw [depth_sfx, depth_sfx, marks_app, sfx_app]
 have e := greedy_flat body.length body (Nat.le_refl _)
 conv => lhs; rw [<- e]
 exact deep_parts _ _ (greedy_op _ _ h) (sfx_nonneg _)
theorem depth_nonneg (l : List Nat) : 0 <= depthS l := by rw [depth_sfx]; exact sfx_nonneg _
theorem num_range : (ops.all fun p => decide (7 <= num p /\ num p < 63)) = true := by decide +kernel
theorem numbers_at (hc : ∀ c ∈ l, op [c] = true) : (∀ t ∈ numbersS l, 7 <= t /\ t < 63) /\ (numbersS l).length <= l.length := by
 constructor
 ·intro t ht
  unfold numbersS at ht
  apply xEAq2R (mem_map.mp ht); intro p hp
  have := all_eq_true.mp (greedy_op l.length l hc) p hp
  exact of_decide_eq_true (all_eq_true.mp num_range p (contains_iff_mem.mp this))
 ·unfold numbersS
  rw [length_map]
  have go : ∀ (n : Nat) (r : List Nat), (greedy n r).length <= n := by
   intro n
   induction n with
   | zero => intro r; exact Nat.le_refl _
   | succ n ih =>
    intro r
    cases r with
    | nil => exact Nat.zero_le _
    | cons c r =>
     show (_ :: greedy n _).length <= _
     rw [length_cons]
     have := ih ((c :: r).drop (g1 (c :: r)))
     lia
  exact go _ _
theorem nn_ga (P : Params) : findIn (KK P) (.ref 52) "__getattribute__" = some (some (.builtin "BaseException.__getattribute__")) := by kernel_rfl
theorem nn_gk (P : Params) : findIn (KK P) (.ref 52) "__getattr__" = some none := by kernel_rfl
theorem nn_hd (P : Params) : hasDictIn (KK P) 52 = true := by kernel_rfl
theorem nag_inst {s : Shared} (hx : s.heap.get? x = some ox) (hc : ox.cls = .ref 52) (hf : ∃ vs, ox.data = .fields vs) (hd : ox.dict = some dx) (hdx : s.heap.get? dx = some (dictOf es n)) : InstAt s.heap x ox 52 (some (dictOf es n)) := ⟨hx, hc, by obtain ⟨vs, q⟩ := hf; unfold notCls; exact rwG q rfl, by refine rwG hd ?_; exact hdx⟩
theorem nag_get (X : (KK w.params).In s.heap) (I : InstAt s.heap x ox 52 (some (dictOf es n))) (hn : findIn (KK w.params) (.ref 52) name = some none) (hl : W.getL name es = some (some v)) (hh : handedIn v = true)
  (h : Q v { s with toks := s.toks + 1 }) : wpAny (model prog w) A (getAttr (.ref x) name expr) Q E s := by
 obtain ⟨hh', g, d, t, os⟩ := s
 have L0 := I.type (M := model prog w)
 have L1 := looks_findIn (M := model prog w) X (nn_ga _)
 have L2 := looks_findIn (M := model prog w) X (nn_gk _)
 have L3 := looks_find (M := model prog w) X I (findObj_own (nn_hd _) hn rfl hl)
 refine xEAA (nn_mro w.params) fun cd hc hm' _ => ?_
 have ne : cd.mro.isEmpty = false := by refine rwG hm' ?_; rfl
 have sub : Looks (model prog w) hh' (isInstance (.ref x) (.type "BaseException")) true := I.type.andThen (looks_mroIn X (by unfold mroIn; rw [hc, Option.bind_some, if_neg (by refine rwG ne ?_; decide), hm']; rfl))
 unfold getAttr getAttrBy
 refine wpAny_bind (wpAny_mkText (wpAny_holding (wpAny_bind (L0.at (wpAny_bind (L1.at ?_))))))
 show wpAny _ _ (getAttrByItsOwn _ _ _ _ _ _) _ _ _
 unfold getAttrByItsOwn hookBefore
 refine wpAny_bind (L2.at (wpAny_bind (wpAny_attempt (wpAny_holding ?_))))
 have e : callGetattribute (.ref x) (.str name t) (.builtin "BaseException.__getattribute__") expr = boundAndCalled (.builtin "BaseException.__getattribute__") (.ref x) (.str name t) := by
  unfold callGetattribute
  cases expr <;> rfl
 refine rwG e ?_
 unfold boundAndCalled
 have hk : builtinKind "BaseException.__getattribute__" = some .slot := by decide +kernel
 have hsplit : splitId "BaseException.__getattribute__" = some ("BaseException", "__getattribute__") := by decide +kernel
 refine wpAny_bind (wpAny_of_eq (PySem.F.attr_Exception.ga.bind _) ?_)
 show wpAny _ _ (call (.builtin "BaseException.__getattribute__") [.ref x, .str name t]) _ _ _
 refine wpAny_call (codeAny_call_builtin PySem.F.attr_Exception.ga.plain PySem.F.entry_bexc_ga (@check_slot (model prog w) _ _ ⟨hh', g, d, t + 1, os⟩ "BaseException.__getattribute__" "BaseException" "__getattribute__" (.ref x) [.str name t] [] _ hk hsplit sub (PySem.F.args_bexc_ga (.ref x) (.str name t)) ?_))
 refine wpAny_bind (wpAny_pure (wpAny_bind (wpAny_pure (wpAny_bind (L0.at (wpAny_bind (L3.at (wpAny_pure ?_))))))))
 show wpAny _ _ (handedOut v) _ _ _
 refine rwG (handedOut_of hh) ?_; exact wpAny_pure h
theorem nag_meth (X : (KK w.params).In s.heap) (I : InstAt s.heap x ox 52 (some (dictOf es n)))
  (hf : findIn (KK w.params) (.ref 52) name = some (some (.ref f))) (ht : typeIn (KK w.params) (.ref f) = some (.type "function")) (hl : W.getL name es = some none) (h : Q (.ref f, [.ref x]) s) :
  wpAny (model prog w) A (getMethod (.ref x) name pl) Q E s := by
 have hcan : (Manifest.canonical "BaseException.__getattribute__" != "object.__getattribute__") = false := by decide +kernel
 unfold getMethod specialOf
 refine wpAny_bind (wpAny_bind (I.type.here ((looks_findIn X (nn_ga _)).here ?_)))
 dsimp only
 refine rwG hcan (rwG (if_neg (by decide)) ?_)
 refine wpAny_bind (wpAny_bind (I.type.here ((looks_findIn X (nn_gk _)).here ?_)))
 refine wpAny_bind (wpAny_bind (I.type.here ((looks_findIn X hf).here (wpAny_bind ((looks_typeIn X ht).here ?_)))))
 refine rwG (if_neg (by decide +kernel)) ?_
 refine wpAny_bind (wpAny_loadPart I.at_ ?_)
 have hd := I.dict
 cases e : ox.dict with
 | none => rw [e] at hd; exact hd.elim
 | some dx =>
  rw [e] at hd
  refine wpAny_bind (wpAny_bind (wpAny_loadPart hd ?_))
  have a : lookIn name (dictOf es n) = some none := by rw [lookIn_dict, hl]
  refine rwG (nsLook_of a) ?_
  exact wpAny_pure (wpAny_bind (wpAny_rule (wpAny_pure h)))
noncomputable def getM (name : Str) (b : List Stmt) : Bool := w1 b fun s => wRet s fun o _ => wSome o fun v => wSelf v name true
theorem getM_inv (h : getM name b = true) : ∃ s1 p1 p2 p3, b = [.Return (some (.Attribute (.Name s1 p1) name p2)) p3] /\ isNm "self" s1 = true := by
 refine w1_E h fun s k1_ => ?_
 refine wRet_E k1_ fun o p3 k2_ => ?_
 refine wSome_E k2_ fun v k3_ => ?_
 refine wSelf_E k3_ fun s1 p1 p2 h1 _ => ?_
 exact ⟨_, _, _, _, rfl, h1⟩
structure GetAt (P : Params) (hT : Heap) (a : Addr) (name : Str) : Prop where
 f : FnAt hT a (fdOf (KK P) a) (bodyOf (fdOf (KK P) a)) ["self"]
 m : getM name (bodyOf (fdOf (KK P) a)) = true
theorem g_lineno (X : (KK P).In hT) : GetAt P hT 35 "lineno" := ⟨fnAt_of X (by kernel_rfl) fun vs h => by obtain ⟨a, rfl⟩ := len1 h; kernel_rfl, by kernel_rfl⟩
theorem g_msg (X : (KK P).In hT) : GetAt P hT 42 "msg" := ⟨fnAt_of X (by kernel_rfl) fun vs h => by obtain ⟨a, rfl⟩ := len1 h; kernel_rfl, by kernel_rfl⟩
theorem g_line (X : (KK P).In hT) : GetAt P hT 49 "line" := ⟨fnAt_of X (by kernel_rfl) fun vs h => by obtain ⟨a, rfl⟩ := len1 h; kernel_rfl, by kernel_rfl⟩
theorem get_ok (Wd₁ : Wd w hT) (F : GetAt w.params hT a name) (hd : A.depth < recursionLimit) (hb : ∀ b o, hT.get? b = some o -> s.heap.get? b = some o) (I : InstAt s.heap e oe 52 (some (dictOf es n)))
  (hn : findIn (KK w.params) (.ref 52) name = some none) (hl : PySem.W.getL name es = some (some v)) (hh : handedIn v = true) (h : ∀ s', Keeps s s' -> Q v s') : wpAny (model prog w) A (call (.ref a) [.ref e]) Q E s := by
 refine wpAny_call (enter_user (w := w) (κ := fun _ => 0) (X₀ := fun _ => False) (X := fun _ => False) (es := [.v (.val (.ref e))]) F.f Wd₁.base.nolimit hd ⟨hb, fun _ f => f.elim, fun _ f => f.elim⟩ (fun _ x => x) rfl rfl (fun i p e' u hp he hu => ?_) (fun x y d d' q => ?_) (fun x d q => id) fun s₁ X' k₁ S g₁ hsub hvals => ?_)
 ·rcases i with _ | i
  ·obtain rfl := osi he; obtain rfl := osi hu; exact .val _
  ·injection he
 ·exact (zip_v (ds := [.val (.ref e)]) q).elim
 refine xEEEEA (getM_inv F.m) fun s1 p1 p2 p3 hbd h1 => ?_
 refine rwG hbd ?_
 have hself := hvals 0 "self" _ rfl rfl
 have I' : InstAt s₁.heap e oe 52 (some (dictOf es n)) := ⟨kh k₁ _ _ I.at_, I.cls, I.no, by
  have hd := I.dict
  cases q : oe.dict with
  | none => rw [q] at hd; exact hd.elim
  | some dx => rw [q] at hd; exact kh k₁ _ _ hd⟩
 refine wpAny_execs_cons (wpAny_Return_some ?_)
 rw [arm_eval_Attribute, base_of rfl]
 refine wpAny_bind (load_self S.fn h1 hself (wpAny_bind (wpAny_standAt (wpAny_bind (wpAny_holding (nag_get (Wd₁.base.inK.keeps S.base) I' hn hl hh ?_))))))
 refine wpAny_bind (wpAny_letTemporaryGo (wpAny_pure ?_))
 exact h _ (kt k₁ (ktok s₁ _))
section
variable {env : Env} {X X₀ M X' : Addr -> Prop} {s σ σ' : Shared} {ρ ρ' : Ro} {names : List (Str × NameKind)}
theorem rng_iter (C : CxOK prog w hT c A) {N : Nat} (hm : mI names (.rng1 e) iter = true) (hn : env.scope.names = names) (S : St w.params hT env X₀ X' ρ σ.heap) (hw : evW c ρ e fun d => d = .int (N : Int)) (hN : N <= 1000)
  (h : ∀ σ₁ I, Keeps σ σ₁ -> σ.heap.get? I = none -> IsRangeIter σ₁.heap I 0 (N : Int) 1 -> Q (.ref I) σ₁) :
  (∀ x, foldedSetIterable iter env x = pure x) /\ wpAny (model prog w) A (eval iter env) (fun xv s₁ => wpAny (model prog w) A (pyIter xv) Q E s₁) E σ := by
 apply xEEEEAAAAq1L (inv_rng1 hm); intro z p x pos h1 h2 h3 h4
 refine ⟨folded_of rfl, ?_⟩
 refine wpAny_Call_ofName (noE (load_glob C h1 h2 hn S C.gRange fun v hr => ?_))
 refine hr.valE ?_
 refine rwG (back1 h3) ?_
 refine PyProof.Rows.callWith_type rfl (Calls.evalArgs_plain (Calls.spliced_cons (noE ((evA C e).1.use h3 hn S hw fun v s₁ d k S₁ hK hr _ => Calls.spliced_nil ?_))))
 subst hK
 have r := hr.rd h4
 refine r.intE fun t => ?_
 refine call_range_1 ?_
 have kp := kt (kpush s₁ { cls := .type "range", data := .fields #[.int 0 s₁.toks, .int (N : Int) t, .int 1 (s₁.toks + 1)] }) (ktok _ (s₁.toks + 1 + 1))
 have hs : small (N : Int) := ⟨by lia, by lia⟩
 refine wpAny_pyIter_range (IsRange.new _ _ _ _ _ _ _) (small_one (by decide) (by decide) hs.1 hs.2) ?_
 have e1 : Builtin.Range.rangeSize 0 (N : Int) 1 = (N : Int) := by rw [rangeSize_one]; split <;> lia
 have kp2 := kt (kt k kp) (kpush _ { cls := .type "range_iterator", data := .fields #[rawInt 0, rawInt (Builtin.Range.rangeSize 0 (N : Int) 1), rawInt 1] })
 refine h _ _ kp2 (fresh_size (kt k kp)) ?_
 show Heap.get? _ _ = _
 exact rwG (Heap.get?_push_size _ rfl) (rwG e1 rfl)
theorem tab_live7 (T : Tab 127 123 h) : ∃ o, h.get? 127 = some o := by
 refine xEA T fun _ z1q _ => ?_; (try clear T); obtain ⟨o, _, _, _, _, _, _, _, _, e, _⟩ := z1q
 exact ⟨o, e⟩
theorem Fr1.bump (J : Fr1 w hT env X (fun a => X₀ a \/ a = I) M s X' ρ σ) (hI : s.heap.get? I = none) (hl : ∃ o, h₁.get? I = some o) (k : ∀ b o, b ≠ I -> σ.heap.get? b = some o -> h₁.get? b = some o) : Fr1 w hT env X (fun a => X₀ a \/ a = I) M s X' ρ { σ with heap := h₁, toks := tk } := by
 have ne : ∀ {b : Addr} {o : Obj}, s.heap.get? b = some o -> b ≠ I := fun e q => by rw [q] at e; exact clash hI e
 refine xEEA (tab_live J.g0.tab) fun o3 _ e3 _ => ?_
 refine xE (tab_live7 J.g0.tab) fun o7 e7 => ?_
 exact ⟨J.st.turnX (F := fun a => a = I) (fun a e => e ▸ hl) (fun a o n e => k a o n e), J.cov, J.mx, J.nX, fun b o h1 h2 e => k b o (ne e) (J.keep b o h1 h2 e), fun b o h1 e => let ⟨sl, q⟩ := J.slot b o h1 e; ⟨sl, k _ _ (ne e) q⟩, J.grow, J.g0,
  ⟨J.sg.tab.keep2 (fun o e => k _ o (ne e7) e) (fun o e => k _ o (ne e3) e), J.sg.bare⟩, J.os⟩
theorem Fr1.kept (J : Fr1 w hT env X X₀ M s X' ρ σ) (keep : List String) : Fr1 w hT env X X₀ M s X' (keepR keep ρ) σ := { J with st := J.st.keepR keep }
theorem Fr1.loop (W : Wd w hT) (C : CxOK prog w hT c A) (J : Fr1 w hT env X X₀ M s X' ρ σ) {n : Str} {N : Nat} {keep : List String} {Q : Flow -> Shared -> Prop} (hx : isStore names x n = true) (hm : mI names (.rng1 e) iter = true) (hn : env.scope.names = names)
  (hw : evW c ρ e fun d => d = .int (N : Int)) (hN : N <= 1000) (hM : ∀ b, M b -> X₀ b) (Inv : Nat -> Ro -> Prop) (h0 : Inv 0 (keepR keep ρ))
  (body : ∀ I i ρ₁ X₁ σ₁, i < N -> Inv i ρ₁ -> s.heap.get? I = none -> Fr1 w hT env X (fun a => X₀ a \/ a = I) M s X₁ ((x, .v (.int (i : Int))) :: ρ₁) σ₁ ->
   wpAny (model prog w) A (execs xs env) (fun fl σ₂ => fl = .next /\ (∀ o, σ₁.heap.get? I = some o -> σ₂.heap.get? I = some o) /\ ∃ ρ₂ X₂, Inv (i + 1) (keepR keep ρ₂) /\ Fr1 w hT env X (fun a => X₀ a \/ a = I) M s X₂ ρ₂ σ₂) FF σ₁)
  (h : ∀ σ₁ ρ₁ X₁, Inv N ρ₁ -> Fr1 w hT env X X₀ M s X₁ ρ₁ σ₁ -> Q .next σ₁) : wpAny (model prog w) A (exec (.For (.Name n p) iter xs [] pos) env) Q E σ := by
 have key := rng_iter (E := E) (Q := fun it s₂ => codeAny (model prog w) A (.forLoop (.Name n p) it xs [] env) (fun r s' => match r with | .ok f => Q f s' | .error e => cameBackBy (model prog w) A env E e s') s₂) C hm hn J.st hw hN fun σ₁ I k hI hit => ?_
 ·exact wpAny_For key.2 key.1
 have hIs : s.heap.get? I = none := by
  cases q : s.heap.get? I with
  | none => rfl
  | some o =>
   by_cases hm : M I
   ·refine xE (J.st.live I (J.st.sub I (hM I hm))) fun o' q' => ?_
    exact clash hI q'
   ·by_cases h3 : I = 123
    ·subst h3
     refine xEEA (tab_live J.sg.tab) fun o' _ e' _ => ?_
     exact clash hI e'
    ·exact clash hI (J.keep I o hm h3 q)
 have X0I : ∀ a, X₀ a -> ¬ a = I := fun a x q => by
  refine xE (J.st.live a (J.st.sub a x)) fun o e => ?_
  rw [q] at e; exact clash hI e
 have Jk := J.keeps k
 have liveI : ∃ o, σ₁.heap.get? I = some o := ⟨_, hit⟩
 have J₀ : Fr1 w hT env X (fun a => X₀ a \/ a = I) M s (fun a => X' a \/ a = I) (keepR keep ρ) σ₁ := by
  refine ⟨(J.st.addX (F := fun a => a = I) (kh k) (fun a e => e ▸ hI) (fun a e => e ▸ liveI)).keepR keep, fun b x y => .inl (J.cov b x y), J.mx, J.nX, Jk.keep, fun b o h1 e => ?_, fun b x => ?_, J.g0, Jk.sg, Jk.os⟩
  ·rcases h1 with h1 | h1
   ·exact Jk.slot b o h1 e
   ·rw [h1] at e; exact clash hIs e
  ·rcases x with x | x
   ·exact J.grow b x
   ·refine rwG x ?_; exact .inr hIs
 refine codeAny_forLoop (fun k σ' => ∃ i ρ' X₁, IsRangeIter σ'.heap I (i : Nat) ((N : Int) - (i : Nat)) 1 /\ i <= N /\ k = N + 1 - i /\ Inv i ρ' /\ Fr1 w hT env X (fun a => X₀ a \/ a = I) M s X₁ ρ' σ') ?_ (N + 1) ⟨0, _, _, by simpa using hit, Nat.zero_le _, rfl, h0, J₀⟩
 rintro kk σ' ⟨i, ρ', X₁, hTi, hi', rfl, hv, J'⟩
 by_cases hlt : i < N
 ·refine wpAny_pyNext_range_item hTi (by lia) fun h₁ hit' hs' => ?_
  have hit₁ : IsRangeIter h₁ I ((i + 1 : Nat) : Int) ((N : Int) - ((i + 1 : Nat) : Int)) 1 := by
   have e1 : ((i + 1 : Nat) : Int) = (i : Int) + 1 := by push_cast; rfl
   have e2 : (N : Int) - ((i + 1 : Nat) : Int) = (N : Int) - (i : Int) - 1 := by push_cast; lia
   refine rwG e2 (rwG e1 ?_); exact hit'
  have J₁ := J'.bump (h₁ := h₁) (tk := σ'.toks + 1) hIs ⟨_, hit'⟩ (fun b o hb e => hs'.extBut b o hb e)
  refine noE (wpAny_assign_Name (store_v (N := fun _ => False) (fun _ q => q.elim) hx hn J₁.st (kr _) (.int _ _) fun σ₂ kb₂ S₂ => ?_))
  have J₂ := J₁.moved W S₂ kb₂ Grow.rfl
  have it₂ : IsRangeIter σ₂.heap I ((i + 1 : Nat) : Int) ((N : Int) - ((i + 1 : Nat) : Int)) 1 := kb₂.heap _ _ (.inr (.inr rfl)) hit₁
  refine noE (wpAny_mono (body I i ρ' X₁ σ₂ hlt hv hIs J₂) (fun fl σ₃ q => ?_) (fun _ _ f => f))
  apply xAAEEAq1L q; intro hI₃ ρ₃ X₃ hv₃ J₃; (try clear q)
  exact ⟨N + 1 - (i + 1), by lia, i + 1, keepR keep ρ₃, X₃, hI₃ _ it₂, hlt, rfl, hv₃, J₃.kept keep⟩
 ·have hin : i = N := by lia
  subst hin
  refine wpAny_pyNext_range_end C.hh hTi (by lia) fun h₁ he' => wpAny_execs_nil ?_
  refine h _ ρ' (fun a => X₁ a /\ ¬ a = I) hv ?_
  have ne : ∀ {b : Addr} {o : Obj}, s.heap.get? b = some o -> b ≠ I := fun e q => by rw [q] at e; exact clash hIs e
  refine xEEA (tab_live J.g0.tab) fun o3 _ e3 _ => ?_
  refine xE (tab_live7 J.g0.tab) fun o7 e7 => ?_
  exact ⟨J'.st.dropX (F := fun a => a = I) X0I (fun a o n e => he' a o n e), J.cov, J.mx, J.nX, fun b o h1 h2 e => he' b o (ne e) (J'.keep b o h1 h2 e), fun b o h1 e => let ⟨sl, q⟩ := J'.slot b o (.inl h1) e; ⟨sl, he' _ _ (ne e) q⟩, fun b x => J'.grow b x.1, J.g0,
   ⟨J'.sg.tab.keep2 (fun o e => he' _ o (ne e7) e) (fun o e => he' _ o (ne e3) e), J'.sg.bare⟩, J'.os⟩
end
theorem St.after (S : St P hT env X₀ X ρ h) (hl : ρ.lookup x = some (.own (.list ds))) (hs : SelfAt env h x (.ref r)) (hr' : OwnRd P h' X (.list ds') (.ref r) r)
  (hc : ∀ n, env.cells.lookup n = none) (h3 : ¬ X 123) (hT3 : hT.get? 123 = none) (h3f : ∃ o vs, h.get? 123 = some o /\ o.data = .fields vs)
  (k : ∀ b o, b ≠ 123 -> b ≠ env.locals -> b ≠ r -> ¬ X₀ b -> h.get? b = some o -> h'.get? b = some o) (k0 : ∀ b, X₀ b -> ∃ o, h'.get? b = some o)
  (hns : ∀ m, h.Ns env.locals m -> h'.Ns env.locals m) : St P hT env X₀ X ((x, .own (.list ds')) :: ρ) h' := by
 refine xEEAAA S.vars fun m κ hn hv hi ho => ?_
 refine xEA (hv x _ hl) fun v hva hr => ?_
 have hr : OwnRd P h X (.list ds) v (κ x) := hr
 obtain rfl := hs.uniq ⟨m, hn, hva⟩
 have ek : κ x = r := hr.lstr
 have rX : X r := hr'.root
 refine xAA (ho x _ hl) fun q1 q2 q3 => ?_
 rw [ek] at q1 q2 q3
 have offT : ∀ {b : Addr} {o : Obj}, hT.get? b = some o -> ¬ X b := fun e x => by exact clash (S.off _ x) e
 have kX : ∀ b o, ¬ X b -> b ≠ 123 -> h.get? b = some o -> h'.get? b = some o := fun b o x h1 e => k b o h1 (fun q => x (q ▸ S.loc)) (fun q => x (q ▸ rX)) (fun q => x (S.sub b q)) e
 have kC : ∀ a o, ¬ X a -> (∀ vs, o.data ≠ .fields vs) -> h.get? a = some o -> h'.get? a = some o := fun a o x hn e => kX a o x (fun q => by
  refine xEEA h3f fun o' ps hp hd => ?_; (try clear h3f)
  rw [q, hp] at e
  obtain rfl := osi e
  exact hn ps hd) e
 have kO : ∀ y d1, ρ.lookup y = some (.own d1) -> y ≠ x -> ∀ ob, h.get? (κ y) = some ob -> h'.get? (κ y) = some ob := fun y d1 hy hne ob e => by
  refine xAA (ho y d1 hy) fun p1 p2 p3 => ?_
  refine xEA (hv y _ hy) fun u _ hro => ?_
  have : X (κ y) := OwnRd.root hro
  exact k _ ob (fun q => h3 (q ▸ this)) p2 (fun q => hne (hi y x d1 _ hy hl (q.trans ek.symm))) p1 e
 have vat : ∀ y u', VarAt env m h y u' -> VarAt env m h' y u' := fun y u' hva => by
  rcases hva with a | ⟨a, cc, b, _⟩
  ·exact .inl a
  ·rw [hc] at b; injection b
 refine ⟨fun a o e => kX a o (offT e) (fun q => by rw [q] at e; exact clash hT3 e) (S.base a o e), S.off, fun a z => ?_, S.sub, S.fn, S.glob, S.blt, S.loc, S.loc0, S.cell0, S.celled, (fun n q e => by rw [hc] at e; injection e), S.apart, m, κ, hns m hn, ?_, ?_, ?_⟩
 ·by_cases z0 : X₀ a
  ·exact k0 a z0
  ·by_cases z1 : a = env.locals
   ·refine xEEEA (hns m hn) fun o _ _ e _ => ?_
    exact ⟨o, z1 ▸ e⟩
   ·by_cases z2 : a = r
    ·refine rwG z2 ?_; exact hr'.live
    ·refine xE (S.live a z) fun o e => ?_
     exact ⟨o, k a o (fun q => h3 (q ▸ z)) z1 z2 z0 e⟩
 ·intro y e q
  rcases look_put q with ⟨rfl, rfl⟩ | ⟨hy, q⟩
  ·refine ⟨.ref r, vat _ _ hva, ?_⟩
   show OwnRd P h' X (.list ds') (.ref r) (κ y)
   refine rwG ek ?_; exact hr'
  ·refine xEA (hv y e q) fun u' hva' hr'' => ?_
   refine ⟨u', vat _ _ hva', ?_⟩
   cases e with
   | v d1 => exact Rd.moveC kC (fun _ _ _ z => z) hr''
   | own d1 => exact OwnRd.moveC hr'' (fun ob _ e => kO y d1 q hy ob e) (OwnRd.root hr'') kC (fun _ _ _ z => z)
 ·intro y z d1 d2 a b e
  have red : ∀ y d1, ((x, Ent.own (.list ds')) :: ρ).lookup y = some (.own d1) -> ∃ d3, ρ.lookup y = some (.own d3) := fun y d1 a => by
   rcases look_put a with ⟨rfl, _⟩ | ⟨_, q⟩
   ·exact ⟨_, hl⟩
   ·exact ⟨d1, q⟩
  refine xE (red y d1 a) fun d3 a' => ?_
  refine xE (red z d2 b) fun d4 b' => ?_
  exact hi y z d3 d4 a' b' e
 ·intro y d1 a
  rcases look_put a with ⟨rfl, _⟩ | ⟨_, q⟩
  ·refine rwG ek ?_; exact ⟨q1, q2, q3⟩
  ·exact ho y d1 q
theorem St.gone (S : St P hT env X₀ X ρ h) (hc : ∀ n, env.cells.lookup n = none) (hno : ∀ y e, ρ.lookup y = some e -> ofString y ≠ n)
  (hs : Heap.SameBut env.locals h h') (hns : ∀ m, h.Ns env.locals m -> h'.Ns env.locals (fun x => if x = n then v else m x)) : St P hT env X₀ X ρ h' := by
 refine xEEAAA S.vars fun m κ hn hv hi ho => ?_
 have k : ∀ b o, b ≠ env.locals -> h.get? b = some o -> h'.get? b = some o := fun b o hb e => hs.extBut b o hb e
 have kX : ∀ b o, ¬ X b -> h.get? b = some o -> h'.get? b = some o := fun b o x e => k b o (fun q => x (q ▸ S.loc)) e
 refine ⟨fun a o e => kX a o (fun x => by exact clash (S.off _ x) e) (S.base a o e), S.off, fun a z => ?_, S.sub, S.fn, S.glob, S.blt, S.loc, S.loc0, S.cell0, S.celled, (fun n q e => by rw [hc] at e; injection e), S.apart, _, κ, hns m hn, fun y e q => ?_, hi, ho⟩
 ·by_cases z1 : a = env.locals
  ·refine xEEEA (hns m hn) fun o _ _ e _ => ?_
   exact ⟨o, z1 ▸ e⟩
  ·refine xE (S.live a z) fun o e => ?_
   exact ⟨o, k a o z1 e⟩
 ·refine xEA (hv y e q) fun u hva hr => ?_
  refine ⟨u, ?_, ?_⟩
  ·rcases hva with ⟨a, b⟩ | ⟨a, cc, b, _⟩
   ·exact .inl ⟨a, (if_neg (hno y e q)).trans b⟩
   ·rw [hc] at b; injection b
  ·cases e with
   | v d1 => exact Rd.move kX (fun _ _ _ z => z) hr
   | own d1 => exact OwnRd.move hr (fun ob e => k _ ob (ho y d1 q).2.1 e) (OwnRd.root hr) kX (fun _ _ _ z => z)
section
variable {env : Env} {X X₀ M X' : Addr -> Prop} {s σ σ' : Shared} {ρ ρ' : Ro} {names : List (Str × NameKind)}
theorem Fr1.exK (W : Wd w hT) (C : CxOK prog w hT c A) (J : Fr1 w hT env X X₀ M s X' ρ σ) {K : Fl -> Ro -> Prop} (hm : mS names cs stm = true) (hn : env.scope.names = names) (hw : exW c cs ρ K)
  (h : ∀ fl σ' fl' ρ' X'', K fl' ρ' -> Fr1 w hT env X X₀ M s X'' ρ' σ' -> FlRd w.params σ'.heap X'' fl' fl -> (∀ b o, X₀ b -> σ.heap.get? b = some o -> σ'.heap.get? b = some o) -> Q fl σ') : wpAny (model prog w) A (exec stm env) Q E σ := by
 refine noE (wpAny_mono (exA C cs names stm env ρ X₀ X' σ K hm hn J.st hw) (fun fl σ' q => ?_) (fun _ _ f => f))
 refine xEEEAAAA q fun fl' ρ' X'' hK S hf kb g => ?_; (try clear q)
 exact h fl σ' fl' ρ' X'' hK (J.moved W S kb g) hf fun b o x e => kb.heap b o (.inr x) e
theorem Fr1.nxK (W : Wd w hT) (C : CxOK prog w hT c A) (J : Fr1 w hT env X X₀ M s X' ρ σ) {rest : List Stmt} (hm : mS names cs stm = true) (hn : env.scope.names = names) (hw : exW c cs ρ fun fl ρ' => fl = .next /\ ρ' = ρ₁)
  (h : ∀ σ' X'', Fr1 w hT env X X₀ M s X'' ρ₁ σ' -> (∀ b o, X₀ b -> σ.heap.get? b = some o -> σ'.heap.get? b = some o) -> wpAny (model prog w) A (execs rest env) Q E σ') : wpAny (model prog w) A (execs (stm :: rest) env) Q E σ := by
 refine wpAny_execs_cons (J.exK W C hm hn hw fun fl σ' fl' ρ' X'' hK J' hf p => ?_)
 refine xA hK fun z1q z2q => ?_; (try clear hK); obtain rfl := z1q; obtain rfl := z2q
 cases fl <;> first | exact hf.elim | skip
 exact h σ' X'' J' p
theorem Fr1.fresh (J : Fr1 w hT env X X₀ M s X' ρ σ) (hM : ∀ b, M b -> X₀ b) (x : X' b) (h : ¬ X₀ b) : s.heap.get? b = none := by
 rcases J.grow b x with q | q
 ·by_cases hm : M b
  ·exact absurd (hM b hm) h
  ·exact absurd (J.cov b q hm) h
 ·exact q
theorem Fr1.went (W : Wd w hT) (J : Fr1 w hT env X X₀ M s X' ρ σ) (hM : ∀ b, M b -> X₀ b) (hc : ∀ n, env.cells.lookup n = none) (hl : ρ.lookup x = some (.own (.list ds))) (hs : SelfAt env σ.heap x (.ref r))
  (keep : ∀ b o, b ≠ r -> b ≠ 123 -> σ.heap.get? b = some o -> σ'.heap.get? b = some o) (sg : Sg σ') (os : σ'.os = σ.os) (own : OwnRd w.params σ'.heap X' (.list ds') (.ref r) r) : Fr1 w hT env X X₀ M s X' ((x, .own (.list ds')) :: ρ) σ' := by
 refine xEA (J.st.own_val hl hs) fun r' hro r0 => ?_
 obtain rfl : r' = r := hro.lstr
 have rX : X' r' := hro.root
 have rl : r' ≠ env.locals := by
  refine xEEEAAAAAA (J.st.own_at hl) fun m v r2 hns hva hr2 _ _ q2 _ => ?_
  obtain rfl := hs.uniq ⟨m, hns, hva⟩
  have : r2 = r' := hr2.lstr
  exact this ▸ q2
 have rn := J.fresh hM rX r0
 have h3 := J.nX'
 have x0 : ∀ b, X₀ b -> b ≠ r' /\ b ≠ 123 := fun b x => ⟨(fun q => r0 (q ▸ x)), fun q => h3 (q ▸ J.st.sub b x)⟩
 refine ⟨J.st.after hl hs own hc h3 W.tabT (tab_live J.sg.tab) (fun b o h1 _ h2 _ e => keep b o h2 h1 e) (fun b x => ?_) (fun m hn => hn.at' fun o e => keep _ o (Ne.symm rl) (fun q => h3 (q ▸ J.st.loc)) e), J.cov, J.mx, J.nX, fun b o h1 h2 e => keep b o (fun q => by rw [q] at e; exact clash rn e) h2 (J.keep b o h1 h2 e), fun b o x e => ?_, J.grow, J.g0, sg, os.trans J.os⟩
 ·refine xE (J.st.live b (J.st.sub b x)) fun o e => ?_
  exact ⟨o, keep b o (x0 b x).1 (x0 b x).2 e⟩
 ·refine xE (J.slot b o x e) fun sl q => ?_
  exact ⟨sl, keep _ _ (x0 b x).1 (x0 b x).2 q⟩
theorem Fr1.land (W : Wd w hT) (J : Fr1 w hT env X X₀ M s X' ρ σ) (hM : ∀ b, M b -> X₀ b) (hc : ∀ n, env.cells.lookup n = none) (hf : env.frame = some env.locals) {tk : Tok} {os : OsState} (hl : ρ.lookup x = some (.own (.list ds))) (hs : SelfAt env σ.heap x (.ref r))
  (hout : ∀ b, b ∈ outer.filterMap (·.frame) ↔ M b) (keep : ∀ z o, z ≠ r -> z ≠ 123 -> z ∉ (env :: outer).filterMap (·.frame) -> σ.heap.get? z = some o -> B.get? z = some o) (tab : Tab 127 123 B) (bare : AllBare gs) (hos : os = σ.os) (stays : B.StaysIn h)
  (slot : ∀ z o, z ∈ (env :: outer).filterMap (·.frame) -> σ.heap.get? z = some o -> ∃ sl, h.get? z = some { o with slots := sl }) (own : OwnRd w.params h X' (.list ds') (.ref r) r) :
  Fr1 w hT env X X₀ M s X' ((x, .own (.list ds')) :: ρ) ⟨h, gs, dr, tk, os⟩ := by
 refine xEA (J.st.own_val hl hs) fun r' hro r0 => ?_
 obtain rfl : r' = r := hro.lstr
 have rX : X' r' := hro.root
 have frm : ∀ b, b ∈ (env :: outer).filterMap (·.frame) ↔ b = env.locals \/ M b := fun b => by rw [filterMap_cons, hf, <- hout]; exact mem_cons
 have rn := J.fresh hM rX r0
 have ln := J.fresh hM J.st.loc J.st.loc0
 have h3 := J.nX'
 have x0 : ∀ b, X₀ b -> b ≠ r' /\ b ≠ 123 /\ b ≠ env.locals := fun b x => ⟨(fun q => r0 (q ▸ x)), (fun q => h3 (q ▸ J.st.sub b x)), fun q => J.st.loc0 (q ▸ x)⟩
 have k1 : ∀ b o, b ≠ r' -> b ≠ 123 -> b ≠ env.locals -> ¬ M b -> σ.heap.get? b = some o -> h.get? b = some o := fun b o h1 h2 h4 h5 e => stays b o (keep b o h1 h2 (fun q => ((frm b).mp q).elim h4 h5) e)
 have hx0 : ∀ b o, X₀ b -> σ.heap.get? b = some o -> ∃ sl, h.get? b = some { o with slots := sl } := fun b o x e => by
  by_cases hm : M b
  ·exact slot b o ((frm b).mpr (.inr hm)) e
  ·exact ⟨o.slots, k1 b o (x0 b x).1 (x0 b x).2.1 (x0 b x).2.2 hm e⟩
 refine ⟨J.st.after hl hs own hc h3 W.tabT (tab_live J.sg.tab) (fun b o h1 h2 h4 h5 e => k1 b o h4 h1 h2 (fun q => h5 (hM b q)) e) (fun b x => ?_) (fun m hn => ?_), J.cov, J.mx, J.nX, fun b o h1 h2 e => k1 b o (fun q => by rw [q] at e; exact clash rn e) h2 (fun q => by rw [q] at e; exact clash ln e) h1 (J.keep b o h1 h2 e), fun b o x e => ?_, J.grow, J.g0, ⟨tab.keeps stays, bare⟩, hos.trans J.os⟩
 ·refine xE (J.st.live b (J.st.sub b x)) fun o e => ?_
  refine xE (hx0 b o x e) fun sl q => ?_
  exact ⟨_, q⟩
 ·refine xEEEAAA hn fun o es ep e hd hk hm => ?_; (try clear hn)
  refine xE (slot _ o ((frm _).mpr (.inl rfl)) e) fun sl q => ?_
  exact ⟨_, es, ep, q, hd, hk, hm⟩
 ·refine xE (J.slot b o x e) fun sl q => ?_
  refine xE (hx0 b _ x q) fun sl' q' => ?_
  exact ⟨sl', q'⟩
theorem Fr1.gone (J : Fr1 w hT env X X₀ M s X' ρ σ) (hM : ∀ b, M b -> X₀ b) (hc : ∀ n, env.cells.lookup n = none) (hno : ∀ y e, ρ.lookup y = some e -> ofString y ≠ n) (hs : Heap.SameBut env.locals σ.heap h')
  (hns : ∀ m, σ.heap.Ns env.locals m -> h'.Ns env.locals (fun x => if x = n then v else m x)) : Fr1 w hT env X X₀ M s X' ρ { σ with heap := h', toks := tk } := by
 have ln := J.fresh hM J.st.loc J.st.loc0
 have k : ∀ b o, b ≠ env.locals -> σ.heap.get? b = some o -> h'.get? b = some o := fun b o hb e => hs.extBut b o hb e
 have ne : ∀ {b : Addr} {o : Obj}, s.heap.get? b = some o -> b ≠ env.locals := fun e q => by rw [q] at e; exact clash ln e
 refine xEEA (tab_live J.g0.tab) fun o3 _ e3 _ => ?_
 refine xE (tab_live7 J.g0.tab) fun o7 e7 => ?_
 exact ⟨J.st.gone hc hno hs hns, J.cov, J.mx, J.nX, fun b o h1 h2 e => k b o (ne e) (J.keep b o h1 h2 e), fun b o x e => let ⟨sl, q⟩ := J.slot b o x e; ⟨sl, k _ _ (ne e) q⟩, J.grow, J.g0,
  ⟨J.sg.tab.keep2 (fun o e => k _ o (ne e7) e) (fun o e => k _ o (ne e3) e), J.sg.bare⟩, J.os⟩
end
noncomputable def c_rs : CE := .call (.glob "_law_steps") (.cons (.var "stack") (.cons (.var "line") (.cons (.bin .Add (.var "k") (.lit (.int 1))) .nil)))
section
variable {env : Env} {X X₀ M X' : Addr -> Prop} {s σ σ' : Shared} {ρ ρ' : Ro} {names : List (Str × NameKind)} {outer : List Env} {sk : List Sk} {row : List Int} {l : List Nat} {k : Nat} {top elder : Sk}
structure Rdy (A : Around) (env : Env) (X₀ M : Addr -> Prop) (outer : List Env) (s : Shared) : Prop where
 hM : ∀ b, M b -> X₀ b
 hc : ∀ n, env.cells.lookup n = none
 hf : env.frame = some env.locals
 hfr : A.frames = some (env :: outer)
 hout : ∀ b, b ∈ outer.filterMap (·.frame) ↔ M b
 hfun : s.heap.FunFrames {} outer
structure SkOk (sk : List Sk) (l : List Nat) (top elder : Sk) : Prop where
 hl : l.length <= 900
 hsl : sk.length <= 700
 ok : ∀ p ∈ sk, WsB (wsOf p.lead)
 okm : WsB (wsOf l)
 hbot : outW (wsOf l) sk < sk.length
 htop : sk[sk.length - 1]? = some top
 held : sk[sk.length - 1 - outW (wsOf l) sk]? = some elder
noncomputable def rowD (row : List Int) : List D := row.map .int
theorem rowD_app (a b : List Int) : rowD a ++ rowD b = rowD (a ++ b) := by unfold rowD; exact rwG map_append rfl
theorem ent_ne (S : St P hT env X₀ X ρ h) (hl : ρ.lookup x = some (.own d)) (hs : SelfAt env h x (.ref r)) (hd : ∃ ds, d = .list ds) : r ≠ env.locals /\ ¬ X₀ r /\ X r := by
 refine xE hd fun ds z1q => ?_; (try clear hd); obtain rfl := z1q
 refine xEEEAAAAAA (S.own_at hl) fun m v r2 hns hva hr2 p1 p2 q2 _ => ?_
 obtain rfl := hs.uniq ⟨m, hns, hva⟩
 have : r2 = r := hr2.lstr
 exact this ▸ ⟨q2, p2, p1⟩
theorem ext_ok (W : Wd w hT) (hA : Room 7 A) (J : Fr1 w hT env X X₀ M s X' ρ σ) (R : Rdy A env X₀ M outer s) (OK : SkOk sk l top elder) (hrn : isNm "row" rn = true) (hmf : mE names c_rs f = true) (hpos : (ap.endLine == cp.line) = true) (hn : env.scope.names = names)
  (h1 : ρ.lookup "stack" = some (.own (.list (sksD sk)))) (h2 : ρ.lookup "row" = some (.own (.list (rowD row)))) (h3 : ρ.lookup "line" = some (.v (.str (st l)))) (h4 : ρ.lookup "k" = some (.v (.int (k : Int)))) (hk : k <= 900) (hrow : row.length <= 100000)
  (g5 : lessW (wsOf top.lead) (wsOf l) = true -> ∀ σ', Fr1 w hT env X X₀ M s X' (("row", .own (.list (rowD (row ++ [5])))) :: ("stack", .own (.list (sksD (sk ++ [⟨l, l⟩])))) :: ρ) σ' -> (∀ b o, X₀ b -> σ.heap.get? b = some o -> σ'.heap.get? b = some o) -> Q .next σ')
  (g6 : lessW (wsOf top.lead) (wsOf l) = false -> eqW (wsOf elder.lead) (wsOf l) = true -> ∀ σ', Fr1 w hT env X X₀ M s X' (("row", .own (.list (rowD (row ++ List.replicate (outW (wsOf l) sk) 6)))) :: ("stack", .own (.list (sksD (sk.take (sk.length - outW (wsOf l) sk))))) :: ρ) σ' -> (∀ b o, X₀ b -> σ.heap.get? b = some o -> σ'.heap.get? b = some o) -> Q .next σ')
  (gE : lessW (wsOf top.lead) (wsOf l) = false -> eqW (wsOf elder.lead) (wsOf l) = false -> ∀ r σ₁ e dx B s' t1 t2 t3, Keeps σ σ₁ -> SelfAt env σ₁.heap "stack" (.ref r) -> Flew w X' r (env :: outer) sk (.int ((k : Int) + 1) t1) (.str (wordsA (wsOf top.lead) (wsOf elder.lead) (wsOf l)) t2) (.str (st l) t3) σ₁ e dx B s' -> E (.ref e) s') :
  wpAny (model prog w) A (exec (.Expr (.Call (.Attribute (.Name rn rp) (ofString "extend") ap) [f] [] cp) ep) env) Q E σ := by
 have C := cx2 (prog := prog) W (hA.less (by decide : 3 <= 7))
 refine xEEEAAAAAAA (J.st.own_at h2) fun mm v rr hns hva hr rX rX0 rl rc hmu => ?_
 obtain rfl := hr.lstv
 have hrs : SelfAt env σ.heap "row" (.ref rr) := ⟨mm, hns, hva⟩
 refine rwG (exec_Expr env _ ep (not_inter J.st.fn) rfl) ?_
 refine wpAny_bind (wpAny_standAt (wpAny_bind ?_))
 rw [arm_eval_Call, base_of rfl]
 refine wpAny_bind (noE (load_at hrn J.st hns hva (wpAny_bind (wpAny_standAt ?_))))
 have hform : methodCallForm ([f].length + ([] : List Keyword).length) (backTo cp (starEach [f] env)) (backToKw cp (keywordEach [] env)) = true := by
  unfold methodCallForm
  refine rwG (star_of hmf) ?_
  rfl
 have hpos' : methodCallPos true (.Name rn rp) env ap cp = pure cp := by unfold methodCallPos; simp [hpos]
 unfold methodCall
 refine rwG hform ?_
 refine wpAny_bind (wpAny_holding ?_)
 show wpAny _ _ (getMethod (.ref rr) (ofString "extend") _) _ _ _
 refine noE (mutM_ok (m := "extend") (d := .list (rowD row)) (id := "list.extend") rfl hr ?_)
 refine wpAny_bind (wpAny_of_eq hpos' ?_)
 have eb : backTo cp (starEach [f] env) = [(false, eval f env)] := by refine rwG (star_of hmf) ?_; rfl
 refine rwG eb ?_
 refine xEEEAAAAAAA (J.st.own_at h1) fun m1 v1 r hns1 hva1 hr1 r1X r1X0 r1l _ _ => ?_
 obtain rfl := hr1.lstv
 have hss : SelfAt env σ.heap "stack" (.ref r) := ⟨m1, hns1, hva1⟩
 have Sx := J.st.asVal hss
 refine Calls.callWith_builtin rfl (Calls.evalArgs_plain (Calls.spliced_cons (call_raw C (v := .ref 171) (Kd := fun ds => ds = [.val (.ref r), .str (st l), .int ((k : Int) + 1)]) hmf hn Sx (nr rfl) (fun h hb => keeps_K (k_steps _) h (W.base.inK.keeps hb)) ?_ fun vs σ₁ ds k₁ S₁ hK hrs₁ => ?_)))
 ·dsimp only [evsW]
  dsimp only [evW, litD]
  simp only [lookup_cons, String.reduceBEq, beq_self_eq_true, h3, h4, x_bin]
  exact rwG q_addI (rwG ask_some rfl)
 subst hK
 have J₁ := J.keeps k₁
 refine hrs₁.consE fun _ _ ra rb => ?_
 refine ra.valE ?_
 refine rb.consE fun _ _ rb rc => ?_
 refine rc.consE fun _ _ rc rd => ?_
 refine rd.nilE ?_
 have hss₁ : SelfAt env σ₁.heap "stack" (.ref r) := (Pin.all (N := fun _ => True) (kh k₁)) "stack" trivial _ hss
 have hrs₁ : SelfAt env σ₁.heap "row" (.ref rr) := (Pin.all (N := fun _ => True) (kh k₁)) "row" trivial _ hrs
 have hne : rr ≠ r := by
  refine xEEAAA J₁.st.vars fun m κ hn' hv' hi' _ => ?_
  refine xEA (hv' _ _ h1) fun u1 a1 b1 => ?_
  refine xEA (hv' _ _ h2) fun u2 a2 b2 => ?_
  obtain rfl := hss₁.uniq ⟨m, hn', a1⟩
  obtain rfl := hrs₁.uniq ⟨m, hn', a2⟩
  have e1 : κ "stack" = r := OwnRd.lstr b1
  have e2 : κ "row" = rr := OwnRd.lstr b2
  intro q
  exact absurd (hi' "row" "stack" _ _ h2 h1 (by exact rwG e1 (rwG e2 (rwG q rfl)))) (by decide)
 have own₁ := hr1.keeps (kh k₁)
 have frm : ∀ b, b ∈ (env :: outer).filterMap (·.frame) ↔ b = env.locals \/ M b := fun b => by rw [filterMap_cons, R.hf, <- R.hout]; exact mem_cons
 have hfun₁ : σ₁.heap.FunFrames {} (env :: outer) := by
  refine xEEA J₁.st.vars fun m _ hn' _ => ?_
  exact Heap.FunFrames.cons (by refine rwG J.st.fn ?_; decide) R.hf hn' rfl (funFrames_move R.hfun (fun b o hb q => J₁.slot b o (R.hM b ((R.hout b).mp hb)) q) fun b _ => rfl)
 have hfx : ∀ b ∈ (env :: outer).filterMap (·.frame), X' b /\ b ≠ r := fun b hb => by
  rcases (frm b).mp hb with q | q
  ·exact q ▸ ⟨J.st.loc, Ne.symm r1l⟩
  ·exact ⟨J.st.sub b (R.hM b q), fun z => r1X0 (z ▸ R.hM b q)⟩
 have good : ∀ {sk' : List Sk} {ds : List Int} {v : Value} {σ₂ : Shared}, ds.length <= 1000 -> Went w X' r sk' ds σ₁ v σ₂ -> (∀ σ', Fr1 w hT env X X₀ M s X' (("row", .own (.list (rowD (row ++ ds)))) :: ("stack", .own (.list (sksD sk'))) :: ρ) σ' -> (∀ b o, X₀ b -> σ.heap.get? b = some o -> σ'.heap.get? b = some o) -> Q .next σ') ->
   wpAny (model prog w) A (call (.builtin "list.extend") ([.ref rr] ++ [v])) (fun v' s₂ => wpAny (model prog w) A (dropValue (.Call (.Attribute (.Name rn rp) (ofString "extend") ap) [f] [] cp) ep v') Q E s₂) E σ₂ := by
  intro sk' ds v σ₂ hd G hQ
  have J₂ := J₁.went W R.hM R.hc h1 hss₁ G.keep G.sg G.os G.own
  have h3' := J₁.nX'
  have hrs₂ : SelfAt env σ₂.heap "row" (.ref rr) := hrs₁.keep (fun b => b = r \/ b = 123) (fun q => q.elim (fun q => r1l q.symm) (fun q => h3' (q ▸ J₁.st.loc))) (fun n c e => by rw [R.hc] at e; injection e) fun b o hb e => G.keep b o (fun q => hb (.inl q)) (fun q => hb (.inr q)) e
  have h2' : (("stack", Ent.own (.list (sksD sk'))) :: ρ).lookup "row" = some (.own (.list (rowD row))) := by refine rwG lookup_cons ?_; exact h2
  refine xEEEAAAAAAA (J₂.st.own_at h2') fun mm v' rr' hns hva hr rX rX0 rl rc hmu => ?_
  obtain rfl := hrs₂.uniq ⟨mm, hns, hva⟩
  obtain rfl := hr.lstr
  have hmd : mutD "extend" (.list (rowD row)) [.list (ds.map .int)] = some (.list (rowD (row ++ ds))) := by
   rw [<- rowD_app]
   exact q_ext (by unfold rowD; rw [length_map, length_map, sizeLine_eq]; lia)
  refine noE (wpAny_mono (mutW_ok (m := "extend") (d := .list (rowD row)) (id := "list.extend") (K := fun d => d = .list (rowD (row ++ ds))) rfl (ask_of hmd rfl) hr (.cons G.rd .nil)) (fun v' σ₃ ⟨u, d', e, hr'⟩ => noE (drop_ok ?_)) (fun _ _ f => f))
  subst e
  have S₃ := hmu σ₂.heap σ₃.heap _ (fun _ _ e => e) (upd_heap u) hr'
  refine hQ σ₃ (J₂.moved W S₃ (upd_kb (N := fun _ => False) (kr _) u rX rX0 rl rc) Grow.rfl) fun b o x e => upd_heap u b o (fun q => rX0 (q ▸ x)) (G.keep b o (fun q => r1X0 (q ▸ x)) (fun q => h3' (q ▸ J.st.sub b x)) (kh k₁ b o e))
 refine steps_ok W hA J₁.st.ok J₁.nX' J₁.sg own₁ (rb.flat rfl) (rc.flat rfl) R.hfr hfun₁ hfx OK.hl OK.hsl OK.ok OK.okm OK.hbot OK.htop OK.held (fun e v s' G => Calls.spliced_nil ?_) (fun e e' v s' G => Calls.spliced_nil ?_) fun e e' x dx B s' t1 t2 t3 F => ?_
 ·exact good (by simp) G (g5 e)
 ·exact good (by refine rwG length_replicate ?_; have := OK.hbot; have := OK.hsl; lia) G (g6 e e')
 ·exact gE e e' r σ₁ x dx B s' t1 t2 t3 k₁ hss₁ F
end
theorem load_nn (Wd₁ : Wd w hT) (hm : mE names (.glob "NannyNag") (.Name n pos) = true) (hn : env.scope.names = names) (S : St w.params hT env X₀ X ρ s.heap) (h : Q (.ref 52) s) : wpAny (model prog w) A (eval (.Name n pos) env) Q E s := by
 have B := Wd₁.base
 refine xA (and3 hm) fun hx hg => ?_
 refine xAA (nm_ok hx) fun z1q hd _ => ?_; obtain rfl := z1q
 refine wpAny_Name ?_ hd
 refine xEA (B.glob "NannyNag" (.val (.ref 52)) (nr rfl)) fun v hr hv => ?_
 revert hv
 refine hr.valE fun hv => ?_
 refine xE B.g fun mg G => ?_
 refine xEA B.b fun mb Gb hmb => ?_
 have hkn : env.kindOf (ofString "NannyNag") = some .globalImplicit := by unfold Env.kindOf; refine rwG hn ?_; exact beq_iff_eq.mp hg
 unfold loadName
 simp only [Env.blockKind, S.fn, hkn, ScopeKind.isAnnotationScope, Bool.false_and, Bool.false_eq_true, if_false]
 have G' : s.heap.Ns env.globals mg := S.glob ▸ G.keeps S.base
 have Gb' : s.heap.Ns env.builtins mb := S.blt ▸ Gb.keeps S.base
 rcases hv with hv | ⟨h1, h2, h3⟩
 ·exact Calls.loadGlobal_global G' (mg_of B.inK G hv) h
 ·exact Calls.loadGlobal_builtin G' (mg_none_of B.inK G h1) Gb' ((hmb _ h3).trans h2) h
theorem St.self_val (S : St P hT env X₀ X ρ h) (hl : ρ.lookup x = some (.v (.val v))) : SelfAt env h x v := by
 refine xEEAA S.vars fun m κ hn hv _ => ?_
 refine xEA (hv x _ hl) fun u hva hr => ?_
 exact ⟨m, hn, (Rd.valE (C := fun u => VarAt env m h x u -> VarAt env m h x v) hr id) hva⟩
theorem nag_call (Wd₁ : Wd w hT) (hd : A.depth < recursionLimit) (S : St w.params hT env X₀ X ρ s.heap) (hnm : isNm "nag" n1 = true)
  (hself : SelfAt env s.heap "nag" (.ref e)) (I : InstAt s.heap e oe 52 (some (dictOf es n))) (hf : findIn (KK w.params) (.ref 52) mname = some (some (.ref f))) (ht : typeIn (KK w.params) (.ref f) = some (.type "function")) (kf : keepIn (KK w.params) (.ref f) = true) (F : GetAt w.params hT f name)
  (hn : findIn (KK w.params) (.ref 52) name = some none) (hl : PySem.W.getL name es = some (some v)) (hlm : PySem.W.getL mname es = some none) (hh : handedIn v = true) (hpos : (a1.endLine == c1.line) = true)
  (h : ∀ s', Keeps s s' -> Q v s') : wpAny (model prog w) A (eval (.Call (.Attribute (.Name n1 p1) mname a1) [] [] c1) env) Q E s := by
 have XK := Wd₁.base.inK.keeps S.base
 rw [arm_eval_Call, base_of rfl]
 refine wpAny_bind (load_self S.fn hnm hself (wpAny_bind (wpAny_standAt ?_)))
 have hpos' : methodCallPos true (.Name n1 p1) env a1 c1 = pure c1 := by unfold methodCallPos; simp [hpos]
 have hform : methodCallForm (([] : List Expr).length + ([] : List Keyword).length) (backTo c1 (starEach [] env)) (backToKw c1 (keywordEach [] env)) = true := rfl
 unfold methodCall
 refine rwG hform ?_
 refine wpAny_bind (wpAny_holding ?_)
 show wpAny _ _ (getMethod (.ref e) mname _) _ _ _
 refine nag_meth XK I hf ht hlm ?_
 refine wpAny_bind (wpAny_of_eq hpos' ?_)
 refine callWith_K0 XK kf ?_
 exact get_ok Wd₁ F hd S.base I hn hl hh h
theorem nn_meths (P : Params) : (findIn (KK P) (.ref 52) "get_lineno" = some (some (.ref 35)) /\ findIn (KK P) (.ref 52) "get_msg" = some (some (.ref 42)) /\ findIn (KK P) (.ref 52) "get_line" = some (some (.ref 49))) /\
  (typeIn (KK P) (.ref 35) = some (.type "function") /\ typeIn (KK P) (.ref 42) = some (.type "function") /\ typeIn (KK P) (.ref 49) = some (.type "function")) /\
  (keepIn (KK P) (.ref 35) = true /\ keepIn (KK P) (.ref 42) = true /\ keepIn (KK P) (.ref 49) = true) := ⟨⟨by kernel_rfl, by kernel_rfl, by kernel_rfl⟩, ⟨by kernel_rfl, by kernel_rfl, by kernel_rfl⟩, by kernel_rfl, by kernel_rfl, by kernel_rfl⟩
theorem getL_at (h : KeysAre P ks es) (he : es.map (·.val) = vs) (hv : getK ks (vs.map D.val) k = some (.val v)) : PySem.W.getL k es = some (some v) := by
 have r : Rds P (default : Heap) (fun _ => False) (vs.map D.val) (es.map (·.val)) := by
  refine rwG he ?_
  clear he hv
  induction vs with
  | nil => exact .nil
  | cons e r ih => exact .cons (.val _) ih
 refine xEA ((h.getL k r).1 _ hv) fun u e hr => ?_
 exact Rd.valE (C := fun u => PySem.W.getL k es = some (some u) -> PySem.W.getL k es = some (some v)) hr id e
structure HandAt (names : List (Str × NameKind)) (nx : Str) (np : Pos) (gn n1 n2 n3 : Str) (ap cp a1 c1 a2 c2 a3 c3 : Pos) (s2 : Stmt) : Prop where
 hx : mE names (.glob "NannyNag") (.Name nx np) = true
 hs : isStore names "nag" (ofString "nag") = true
 hg : isNm "nags" gn = true
 h1 : isNm "nag" n1 = true
 h2 : isNm "nag" n2 = true
 h3 : isNm "nag" n3 = true
 q0 : (ap.endLine == cp.line) = true
 q1 : (a1.endLine == c1.line) = true
 q2 : (a2.endLine == c2.line) = true
 q3 : (a3.endLine == c3.line) = true
 hf : mS names (.assign "fits" (.lit (.bool false))) s2 = true
 hk : names.lookup (ofString "nag") = some .local
theorem none_nag {ρ : Ro} {a b c : Ent} (hno : ρ.lookup "nag" = none) : (("fits", a) :: ("nags", b) :: ("stack", c) :: ρ).lookup "nag" = none := by
 refine rwG lookup_cons (rwG lookup_cons (rwG lookup_cons ?_)); exact hno
theorem drop_nag {ρ : Ro} {a b c d : Ent} (hno : ρ.lookup "nag" = none) (x : String) (e : Ent) (q : (("fits", a) :: ("nags", b) :: ("stack", c) :: ρ).lookup x = some e) : (("fits", a) :: ("nags", b) :: ("nag", d) :: ("stack", c) :: ρ).lookup x = some e := by
 by_cases hx : x = "nag"
 ·subst hx
  exact clash (none_nag hno) q
 ·rw [lookup_cons, lookup_cons] at q ⊢
  refine rwG (look_ne (beq_eq_false_iff_ne.mpr hx)) ?_
  exact q
noncomputable def nagE (n : Str) (p : Pos) (m : Str) (a c : Pos) : Expr := .Call (.Attribute (.Name n p) m a) [] [] c
section
variable {env : Env} {X X₀ M X' : Addr -> Prop} {s σ σ₁ : Shared} {ρ : Ro} {names : List (Str × NameKind)} {outer : List Env} {sk : List Sk} {nags : List D}
theorem suite_ok (W : Wd w hT) (dep : A.depth < recursionLimit) {σ₅ : Shared} {ρ₅ : Ro} (J₅ : Fr1 w hT env X X₀ M s X' ρ₅ σ₅) (h2' : ρ₅.lookup "nags" = some (.own (.list nags))) (hnl : nags.length <= 100000) {e : Addr} {oe : Obj} {es : List DictEntry} {n : Nat} {pl : Int} {t1 t2 t3 : Tok} {wd ln : Str}
  (hsn : SelfAt env σ₅.heap "nag" (.ref e)) (I₅ : InstAt σ₅.heap e oe 52 (some (dictOf es n))) (hks : KeysAre w.params ["lineno", "msg", "line"] es) (hvs : es.map (·.val) = [.int pl t1, .str wd t2, .str ln t3])
  {nx : Str} {np : Pos} {gn n1 n2 n3 : Str} {gp p1 p2 p3 ap cp a1 c1 a2 c2 a3 c3 tp ep : Pos} {tk : Nat} {s2 : Stmt} (H : HandAt names nx np gn n1 n2 n3 ap cp a1 c1 a2 c2 a3 c3 s2) (hn : env.scope.names = names) {Q : Flow -> Shared -> Prop}
  (hQ : ∀ σ', Fr1 w hT env X X₀ M s X' (("fits", .v (.bool false)) :: ("nags", .own (.list (nags ++ [.tup [.int pl, .str wd, .str ln]]))) :: ρ₅) σ' -> (∀ b o, X₀ b -> σ₅.heap.get? b = some o -> σ'.heap.get? b = some o) -> Q .next σ') :
  wpAny (model prog w) A (execs [.Expr (.Call (.Attribute (.Name gn gp) (ofString "append") ap) [.Tuple [nagE n1 p1 "get_lineno" a1 c1, nagE n2 p2 "get_msg" a2 c2, nagE n3 p3 "get_line" a3 c3] tk tp] [] cp) ep, s2] env) Q E σ₅ := by
 obtain ⟨TE, hTE⟩ : ∃ t, t = Expr.Tuple [nagE n1 p1 "get_lineno" a1 c1, nagE n2 p2 "get_msg" a2 c2, nagE n3 p3 "get_line" a3 c3] tk tp := ⟨_, rfl⟩
 refine rwG (Eq.symm hTE) ?_
 have hst : backTo cp (starEach [TE] env) = [(false, eval TE env)] := by refine rwG hTE ?_; rfl
 have hform : methodCallForm ([TE].length + ([] : List Keyword).length) (backTo cp (starEach [TE] env)) (backToKw cp (keywordEach [] env)) = true := by refine rwG hst ?_; rfl
 refine xAAAA (nn_meths w.params) fun z1q z2q k1' k2' k3' => ?_; obtain ⟨m1, m2, m3⟩ := z1q; obtain ⟨t1', t2', t3'⟩ := z2q
 refine xAA (nn_fields w.params) fun f1 f2 f3 => ?_
 have XK := W.base.inK
 have keepsI : ∀ {σ σ' : Shared} {oe : Obj}, Keeps σ σ' -> InstAt σ.heap e oe 52 (some (dictOf es n)) -> InstAt σ'.heap e oe 52 (some (dictOf es n)) := fun {σ σ' oe} k I => ⟨kh k _ _ I.at_, I.cls, I.no, by
  have hd := I.dict
  cases q : oe.dict with
  | none => rw [q] at hd; exact hd.elim
  | some dx => rw [q] at hd; exact kh k _ _ hd⟩
 have pin : ∀ {σ σ' : Shared} {x : String} {v : Value}, Keeps σ σ' -> SelfAt env σ.heap x v -> SelfAt env σ'.heap x v := fun {σ σ' x v} k q => (Pin.all (N := fun _ => True) (kh k)) x trivial v q
 have tup : ∀ Q' E' : Value -> Shared -> Prop, (∀ σ₈, Keeps σ₅ σ₈ -> Q' (.ref σ₈.heap.objs.size) { σ₈ with heap := σ₈.heap.push { cls := .type "tuple", data := .seq [Value.int pl t1, .str wd t2, .str ln t3].toArray } }) -> wpAny (model prog w) A (eval TE env) Q' E' σ₅ := fun Q' E' hQ' => by
  refine rwG hTE ?_
  refine wpAny_Tuple (wpAny_items_cons (nag_call W dep J₅.st H.h1 hsn I₅ m1 t1' k1' (g_lineno XK) f1 (getL_at hks hvs rfl) (getL_of hks (by decide +kernel)).1 rfl H.q1 fun σ₆ k₆ => ?_))
  refine wpAny_items_cons (nag_call W dep (J₅.keeps k₆).st H.h2 (pin k₆ hsn) (keepsI k₆ I₅) m2 t2' k2' (g_msg XK) f2 (getL_at hks hvs rfl) (getL_of hks (by decide +kernel)).1 rfl H.q2 fun σ₇ k₇ => ?_)
  refine wpAny_items_cons (nag_call W dep ((J₅.keeps k₆).keeps k₇).st H.h3 (pin k₇ (pin k₆ hsn)) (keepsI k₇ (keepsI k₆ I₅)) m3 t3' k3' (g_line XK) f3 (getL_at hks hvs rfl) (getL_of hks (by decide +kernel)).1 rfl H.q3 fun σ₈ k₈ => ?_)
  exact wpAny_items_nil ⟨by show 3 <= sizeLine; decide, hQ' σ₈ (kt k₆ (kt k₇ k₈))⟩
 clear m1 m2 m3 t1' t2' t3' k1' k2' k3' f1 f2 f3 hTE I₅ keepsI hsn hks hvs
 refine xEEEAAAAAAA (J₅.st.own_at h2') fun mm v rr hns hva hr rX rX0 rl rc hmu => ?_
 obtain rfl : v = .ref rr := hr.listE (C := fun v r => v = .ref r) fun _ _ _ _ _ _ => rfl
 refine wpAny_execs_cons ?_
 refine rwG (exec_Expr env _ ep (not_inter J₅.st.fn) rfl) ?_
 refine wpAny_bind (wpAny_standAt (wpAny_bind ?_))
 rw [arm_eval_Call, base_of rfl]
 refine wpAny_bind (noE (load_at H.hg J₅.st hns hva (wpAny_bind (wpAny_standAt ?_))))
 have hpos' : methodCallPos true (.Name gn gp) env ap cp = pure cp := by unfold methodCallPos; simp [H.q0]
 unfold methodCall
 refine rwG hform ?_
 refine wpAny_bind (wpAny_holding ?_)
 show wpAny _ _ (getMethod (.ref rr) (ofString "append") _) _ _ _
 refine noE (mutM_ok (m := "append") (d := .list nags) (id := "list.append") rfl hr ?_)
 refine wpAny_bind (wpAny_of_eq hpos' ?_)
 refine rwG hst ?_
 refine Calls.callWith_builtin rfl (Calls.evalArgs_plain (Calls.spliced_cons (tup _ _ fun σ₈ k₈ => Calls.spliced_nil ?_)))
 have k9 := kt k₈ (kpush σ₈ { cls := .type "tuple", data := .seq [Value.int pl t1, .str wd t2, .str ln t3].toArray })
 have J₉ := J₅.keeps k9
 have rd : Rd w.params (σ₈.heap.push { cls := .type "tuple", data := .seq [Value.int pl t1, .str wd t2, .str ln t3].toArray }) X' (.tup [.int pl, .str wd, .str ln]) (.ref σ₈.heap.objs.size) := by
  refine .tup (vs := #[Value.int pl t1, .str wd t2, .str ln t3]) (n := 0) (fun x => ?_) (Heap.get?_push_size _ rfl) (.cons (.int _ _) (.cons (.str _ _) (.cons (.str _ _) .nil)))
  refine xE ((J₅.keeps k₈).st.live _ x) fun o q => ?_
  rw [get_size] at q; injection q
 have hmd : mutD "append" (.list nags) [.tup [.int pl, .str wd, .str ln]] = some (.list (nags ++ [.tup [.int pl, .str wd, .str ln]])) := q_app (by refine rwG sizeLine_eq ?_; lia)
 refine noE (wpAny_mono (mutW_ok (m := "append") (d := .list nags) (id := "list.append") (K := fun d => d = .list (nags ++ [.tup [.int pl, .str wd, .str ln]])) rfl (ask_of hmd rfl) (hr.keeps (kh k9)) (.cons rd .nil)) (fun v' σ₁₀ ⟨u, d', e', hr'⟩ => noE (drop_ok ?_)) (fun _ _ f => f))
 subst e'
 have S₁₀ := hmu _ σ₁₀.heap _ (kh k9) (upd_heap u) hr'
 have kb₁₀ := upd_kb (N := fun _ => False) (env := env) (X₀ := X₀) (X := X') k9 u rX rX0 rl rc
 have J₁₀ := J₅.moved W S₁₀ kb₁₀ Grow.rfl
 apply xEEEEAAAq1L (inv_assign H.hf); intro fnn fp fv fpos hfs hfm _
 refine wpAny_execs_cons (wpAny_Assign_Name (noE ((ev_lit (prog := prog) (w := w) (hT := hT) (c := cx tb U2) (k := .bool false)).use hfm hn J₁₀.st (K := fun d => d = .bool false) rfl fun u₁ σ₁₁ d₁ k₁₁ S₁₁ hK hr₁ _ => ?_)) (no_swap ?_))
 rotate_left
 ·cases fv <;> first | rfl | exact (Bool.false_ne_true hfm).elim
 subst hK
 refine noE (store_v (N := fun _ => False) (fun _ q => q.elim) hfs hn J₁₀.st k₁₁ (hr₁.rd rfl) fun σ₁₂ kb₁₂ S₁₂ => wpAny_execs_nil ?_)
 have J₁₂ := J₁₀.moved W S₁₂ kb₁₂ Grow.rfl
 exact hQ _ J₁₂ fun b o x q => kb₁₂.heap b o (.inr x) (kb₁₀.heap b o (.inr x) q)
theorem hand_ok (W : Wd w hT) (hA : Room 7 A) (J : Fr1 w hT env X X₀ M s X' ρ σ₁) (R : Rdy A env X₀ M outer s) {r e dx : Addr} {B : Heap} {s' : Shared} {pl : Int} {t1 t2 t3 : Tok} {wd ln : Str} {Q : Flow -> Shared -> Prop} (hss : SelfAt env σ₁.heap "stack" (.ref r)) (F : Flew w X' r (env :: outer) sk (.int pl t1) (.str wd t2) (.str ln t3) σ₁ e dx B s')
  (h1 : ρ.lookup "stack" = some (.own (.list (sksD sk)))) (h2 : ρ.lookup "nags" = some (.own (.list nags))) (hno : ρ.lookup "nag" = none) (hnl : nags.length <= 100000)
  {nx : Str} {np : Pos} {gn n1 n2 n3 : Str} {gp p1 p2 p3 ap cp a1 c1 a2 c2 a3 c3 tp ep hp : Pos} {tk : Nat} {s2 : Stmt} (H : HandAt names nx np gn n1 n2 n3 ap cp a1 c1 a2 c2 a3 c3 s2) (hn : env.scope.names = names)
  (hQ : ∀ σ', Fr1 w hT env X X₀ M s X' (("fits", .v (.bool false)) :: ("nags", .own (.list (nags ++ [.tup [.int pl, .str wd, .str ln]]))) :: ("stack", .own (.list (sksD sk))) :: ρ) σ' -> (∀ b o, X₀ b -> ¬ M b -> σ₁.heap.get? b = some o -> σ'.heap.get? b = some o) -> Q .next σ') :
  wpAny (model prog w) A (noteFrame (.ref e) env) (fun _ s₂ => wpAny (model prog w) A (setFlight (.ref e) none) (fun _ s₃ => wpAny (model prog w) A (handleBy (.ref e) env
   [.ExceptHandler (some (.Name nx np)) (some (ofString "nag")) [.Expr (.Call (.Attribute (.Name gn gp) (ofString "append") ap) [.Tuple [nagE n1 p1 "get_lineno" a1 c1, nagE n2 p2 "get_msg" a2 c2, nagE n3 p3 "get_line" a3 c3] tk tp] [] cp) ep, s2] hp]) Q E s₃) E s₂) E s' := by
 have hfun : σ₁.heap.FunFrames {} (env :: outer) := by
  refine xEEA J.st.vars fun m _ hn' _ => ?_
  exact Heap.FunFrames.cons (by refine rwG J.st.fn ?_; decide) R.hf hn' rfl (funFrames_move R.hfun (fun b o hb q => J.slot b o (R.hM b ((R.hout b).mp hb)) q) fun b _ => rfl)
 have eX : ¬ X' e := fun x => by
  refine xE (J.st.live _ x) fun o q => ?_
  exact clash F.new q
 have dX : ¬ X' dx := fun x => by
  refine xE (J.st.live _ x) fun o q => ?_
  exact clash F.newd q
 refine xEEAA F.dict fun es n hdx hks hvs => ?_
 have slotOf : ∀ {h : Heap}, s'.heap.UpToSlots h -> ∀ z o, z ∈ (env :: outer).filterMap (·.frame) -> σ₁.heap.get? z = some o -> ∃ sl, h.get? z = some { o with slots := sl } := fun u z o hz q => by
  refine xAEA (hfun.mem hz) fun _ o' y hnf => ?_
  rw [q] at y; obtain rfl := osi y
  refine xE (F.slot z o hz q) fun sl q' => ?_
  refine xE (u z { o with slots := sl } q' hnf) fun sl' q'' => ?_
  exact ⟨sl', q''⟩
 have landed : ∀ {h : Heap} {tk : Tok}, B.StaysIn h -> s'.heap.UpToSlots h -> Fr1 w hT env X X₀ M s X' (("stack", .own (.list (sksD sk))) :: ρ) ⟨h, s'.gens, s'.drawn, tk, s'.os⟩ := fun st u => J.land W R.hM R.hc R.hf h1 hss R.hout F.keep F.tab F.bare F.os st (slotOf u) (F.own.keeps st)
 have kept : ∀ {h : Heap}, B.StaysIn h -> ∀ b o, X₀ b -> ¬ M b -> σ₁.heap.get? b = some o -> h.get? b = some o := fun st b o x hm q => by
  refine xAA (ent_ne J.st h1 hss ⟨_, rfl⟩) fun _ r0 _ => ?_
  refine st b o (F.keep b o (fun z => r0 (z ▸ x)) (fun z => J.nX' (z ▸ J.st.sub b x)) (fun z => ?_) q)
  rw [filterMap_cons, R.hf] at z
  rcases mem_cons.mp z with z | z
  ·exact J.st.loc0 (z ▸ x)
  ·exact hm ((R.hout b).mp z)
 refine noteD R.hfr R.hf F.fl fun h₂ fl₂ u₂ => ?_
 refine flightD (s := { s' with heap := h₂ }) fl₂ fun h₃ fl₃ u₃ => ?_
 have J₃ := landed (tk := s'.toks) fl₃.stays (u₂.trans u₃)
 refine wpAny_handleBy_cons (codeAny_handlers_test (load_nn W H.hx hn J₃.st ?_)) (by intro q; injection q)
 refine xEEEEEEEEEEEEEEE (nn_of (W.base.inK.keeps J₃.st.base) (nn_in _)) fun nm q N bs sn sub ab col dd k0 k1 k2 k3 k5 mN HN => ?_
 obtain ⟨oe, vs, T, oT, ts, he, hcls, _⟩ := id fl₃.tr
 refine wpAny_excMatches_sub_self (g := s'.gens) (d := s'.drawn) (t := s'.toks) (os := s'.os) HN.cls he hcls (by decide +kernel) (codeAny_handlers_suite_as ?_)
 refine flightD (s := ⟨h₃, s'.gens, s'.drawn, s'.toks, s'.os⟩) fl₃ fun h₄ fl₄ u₄ => ?_
 have J₄ := landed (tk := s'.toks) fl₄.stays ((u₂.trans u₃).trans u₄)
 have kept₄ := kept fl₄.stays
 refine xEEEEEAAAA (id fl₄.tr) fun oe vs T oT ts he hcls hdict hdata _ => ?_
 have hdx₄ := fl₄.stays _ _ hdx
 generalize hσ₄ : (⟨h₄, s'.gens, s'.drawn, s'.toks, s'.os⟩ : Shared) = σ₄ at *
 have e4 : σ₄.heap = h₄ := by exact rwG (Eq.symm hσ₄) rfl
 rw [<- e4] at he hdx₄ kept₄
 clear hσ₄
 refine noE (store_v (N := fun _ => False) (fun _ q => q.elim) H.hs hn J₄.st (kr _) (.val (.ref e)) fun σ₅ kb₅ S₅ => ?_)
 have J₅ := J₄.moved W S₅ kb₅ Grow.rfl
 have he₅ := kb₅.heap _ _ (.inl eX) he
 have hdx₅ := kb₅.heap _ _ (.inl dX) hdx₄
 have kept₅ : ∀ b o, X₀ b -> ¬ M b -> σ₁.heap.get? b = some o -> σ₅.heap.get? b = some o := fun b o x hm q => kb₅.heap b o (.inr x) (kept₄ b o x hm q)
 have hsn := S₅.self_val (x := "nag") (v := .ref e) rfl
 have I₅ := nag_inst he₅ hcls ⟨_, hdata⟩ hdict hdx₅
 have h2' : (("nag", Ent.v (.val (.ref e))) :: ("stack", Ent.own (.list (sksD sk))) :: ρ).lookup "nags" = some (.own (.list nags)) := by refine rwG lookup_cons (rwG lookup_cons ?_); exact h2
 refine suite_ok W (by have := hA.depth; show A.depth < _; lia) J₅ h2' hnl hsn I₅ hks hvs H hn fun σ₁₂ J₁₂ k₁₂ => ?_
 refine xEEA J₁₂.st.vars fun m _ hm _ => ?_
 have kl : env.kindOf (ofString "nag") = some .local := by unfold Env.kindOf; refine rwG hn ?_; exact H.hk
 refine wpAny_nameGoes_keeps kl hm (plain_kind J₁₂.st.fn) fun h₁₃ v₁₃ ns₁₃ sb₁₃ => ?_
 have J' : Fr1 w hT env X X₀ M s X' (("fits", .v (.bool false)) :: ("nags", .own (.list (nags ++ [.tup [.int pl, .str wd, .str ln]]))) :: ("stack", .own (.list (sksD sk))) :: ρ) σ₁₂ := { J₁₂ with st := J₁₂.st.names (drop_nag hno) }
 refine hQ _ (J'.gone R.hM R.hc (n := ofString "nag") (v := v₁₃) (fun y e q z => ?_) sb₁₃ fun m' hm' => ?_) fun b o x hmb q => ?_
 ·obtain rfl := ofString_inj z
  exact clash (none_nag hno) q
 ·have e : m' = m := by
   refine xEEEAAA hm fun o es ep e1 e2 _ e3 => ?_; (try clear hm)
   refine xEEEAAA hm' fun o' es' ep' f1 f2 _ f3 => ?_; (try clear hm')
   rw [e1] at f1; cases f1
   rw [e2] at f2; cases f2
   funext z; rw [<- e3, <- f3]
  subst e
  exact ns₁₃
 ·exact sb₁₃.extBut b o (fun z => J.st.loc0 (z ▸ x)) (k₁₂ b o x (kept₅ b o x hmb q))
end
structure Sim (i : Nat) (sk : List Sk) (T : TS) : Prop where
 ok : TOk i T
 ws : sk.map (fun p => wsOf p.lead) = T.stack.map wsOf
 inc : T.stack.Pairwise fun a b => under (cols a) (cols b) = true
theorem Sim.len (S : Sim i sk T) : sk.length = T.stack.length := by
 have := congrArg List.length S.ws
 rw [length_map, length_map] at this
 exact this
theorem Sim.pos (S : Sim i sk T) : 0 < T.stack.length := by
 have := S.ok.bot
 cases q : T.stack with
 | nil => rw [q] at this; injection this
 | cons _ _ => simp
theorem Sim.at_ (S : Sim i sk T) (hj : j < T.stack.length) : ∃ p, sk[j]? = some p /\ wsOf p.lead = wsOf (T.stack.getD j []) /\ Lead (T.stack.getD j []) := by
 have hj' : j < sk.length := by refine rwG S.len ?_; exact hj
 refine ⟨sk[j], List.getElem?_eq_getElem hj', ?_, ?_⟩
 ·have : (sk.map fun p => wsOf p.lead)[j]? = (T.stack.map wsOf)[j]? := by exact rwG S.ws rfl
  rw [List.getElem?_map, List.getElem?_map, List.getElem?_eq_getElem hj', List.getElem?_eq_getElem hj] at this
  rw [List.getD_eq_getElem?_getD, List.getElem?_eq_getElem hj]
  exact osi this
 ·refine rwG (List.getD_eq_getElem?_getD) (rwG (List.getElem?_eq_getElem hj) ?_)
  exact S.ok.leads _ (List.getElem_mem hj)
theorem tw_map : ∀ l : List α, (l.takeWhile fun a => g (f a)).length = ((l.map f).takeWhile g).length
 | [] => rfl
 | a :: l => by
  refine rwG map_cons (rwG takeWhile_cons (rwG takeWhile_cons ?_))
  cases g (f a) with
  | true => exact rwG (if_pos rfl) (rwG (if_pos rfl) (rwG length_cons (rwG length_cons (rwG (tw_map l) rfl))))
  | false => rfl
theorem tw_congr : ∀ {l : List α}, (∀ a ∈ l, f a = g a) -> l.takeWhile f = l.takeWhile g
 | [], _ => rfl
 | a :: l, h => by
  exact rwG takeWhile_cons (rwG takeWhile_cons (rwG (h a mem_cons_self) (rwG (tw_congr fun b hb => h b (mem_cons_of_mem _ hb)) rfl)))
theorem Sim.out (S : Sim i sk T) (hl : Lead lead) : outW (wsOf lead) sk = abv T lead := by
 unfold outW
 have e1 := tw_map (f := fun p : Sk => wsOf p.lead) (g := lessW (wsOf lead)) sk.reverse
 refine rwG e1 (rwG List.map_reverse (rwG S.ws (rwG (Eq.symm List.map_reverse) (rwG (Eq.symm (tw_map (f := wsOf) (g := lessW (wsOf lead)) T.stack.reverse)) ?_))))
 have e2 : T.stack.reverse.takeWhile (fun a => lessW (wsOf lead) (wsOf a)) = T.stack.reverse.takeWhile fun s => under (cols lead) (cols s) := tw_congr fun a ha => (lead_two hl (S.ok.leads a (List.mem_reverse.mp ha))).less
 rw [e2, <- filter_suffix (p := fun s => under (cols lead) (cols s)) (R := T.stack.reverse), List.filter_reverse, List.length_reverse]
 ·rfl
 ·rw [List.pairwise_reverse]
  exact S.inc.imp fun {a b} hab ha => under_trans (cols_len _) (cols_len _) (cols_len _) ha hab
structure StepAt (i : Nat) (sk : List Sk) (T : TS) (l : List Nat) (top elder : Sk) : Prop where
 ok : SkOk sk l top elder
 out : outW (wsOf l) sk = abv T (leadOf l)
 less : lessW (wsOf top.lead) (wsOf l) = under (cols (topL T)) (cols (leadOf l))
 eq : eqW (wsOf elder.lead) (wsOf l) = decide (cols (baseL T (leadOf l)) = cols (leadOf l))
 words : wordsA (wsOf top.lead) (wsOf elder.lead) (wsOf l) = nagW (topL T) (baseL T (leadOf l)) (leadOf l)
theorem step_at (S : Sim i sk T) (hi : i <= 50) (hL : LineOk l) : ∃ top elder, StepAt i sk T l top elder := by
 have H := hL.at_
 refine xAA (ws_line hL) fun e1 e2 e3 => ?_
 have hab : abv T (leadOf l) < T.stack.length := abv_lt S.ok.bot H.lead
 have hpos := S.pos
 obtain ⟨top, t1, t2, t3⟩ := S.at_ (j := T.stack.length - 1) (by lia)
 obtain ⟨elder, b1, b2, b3⟩ := S.at_ (j := T.stack.length - abv T (leadOf l) - 1) (by lia)
 have ho : outW (wsOf l) sk = abv T (leadOf l) := by refine rwG e1 ?_; exact S.out H.lead
 have hlen := S.len
 have hll : l.length <= 900 := by
  have : l.length = (leadOf l ++ bodyAt l).length := by exact rwG (Eq.symm H.eq) rfl
  refine rwG this (rwG length_append ?_)
  have := H.lead.len
  have := H.len
  lia
 have wb : ∀ p ∈ sk, WsB (wsOf p.lead) := fun p hp => by
  obtain ⟨j, hj, e⟩ := List.getElem_of_mem hp
  obtain ⟨p', q1, q2, q3⟩ := S.at_ (j := j) (by lia)
  rw [List.getElem?_eq_getElem hj] at q1
  obtain rfl := osi q1
  refine rwG (Eq.symm e) (rwG q2 ?_)
  exact wt_bound q3
 have s1 := S.ok.slen
 have A := lead_two t3 H.lead
 have B := lead_two b3 H.lead
 refine ⟨top, elder, ⟨hll, by lia, wb, by refine rwG e1 ?_; exact wt_bound H.lead, by lia, by refine rwG hlen ?_; exact t1, by refine rwG hlen (rwG ho (rwG (show T.stack.length - 1 - abv T (leadOf l) = T.stack.length - abv T (leadOf l) - 1 by lia) ?_)); exact b1⟩, ho, ?_, ?_, ?_⟩
 ·refine rwG t2 (rwG e1 ?_); exact A.less
 ·refine rwG b2 (rwG e1 ?_); exact B.eq
 ·unfold wordsA wordsN nagW
  refine rwG t2 (rwG b2 (rwG e1 (rwG A.ge (rwG B.ne ?_))))
  show ((_ ++ _) ++ _) ++ _ = (_ ++ _) ++ (_ ++ _)
  rw [Str.append_assoc]
  rfl
theorem inc_snoc {stack : List (List Nat)} (h : stack.Pairwise fun a b => under (cols a) (cols b) = true) (ht : under (cols (stack.getD (stack.length - 1) [])) (cols lead) = true) : (stack ++ [lead]).Pairwise fun a b => under (cols a) (cols b) = true := by
 rw [List.pairwise_append]
 refine ⟨h, List.pairwise_singleton _ _, fun a ha b hb => ?_⟩
 rw [mem_singleton.mp hb]
 rcases List.eq_nil_or_concat stack with e | ⟨r, x, e⟩
 ·rw [e] at ha; cases ha
 ·rw [List.concat_eq_append] at e
  subst e
  have ex : (r ++ [x]).getD ((r ++ [x]).length - 1) [] = x := by
   rw [List.getD_eq_getElem?_getD, length_append, length_singleton, Nat.add_sub_cancel, List.getElem?_append_right (Nat.le_refl _), Nat.sub_self]
   rfl
  rw [ex] at ht
  rcases mem_append.mp ha with q | q
  ·rw [List.pairwise_append] at h
   exact under_trans (cols_len _) (cols_len _) (cols_len _) (h.2.2 a q x (mem_singleton.mpr rfl)) ht
  ·rw [mem_singleton.mp q]; exact ht
theorem step_in {i : Nat} (S : Sim i sk T) (hi : i <= 50) (hL : LineOk l) (hd : depthS T.done = 0) (h : under (cols (topL T)) (cols (leadOf l)) = true) :
  stepT T i l = finT T (T.stack ++ [leadOf l]) (T.row ++ [5]) (bodyAt l) /\ Sim (i + 1) (sk ++ [⟨l, l⟩]) (stepT T i l) := by
 have H := hL.at_
 have e : stepT T i l = finT T (T.stack ++ [leadOf l]) (T.row ++ [5]) (bodyAt l) := by unfold stepT; exact rwG (if_pos hd) (rwG (if_pos h) rfl)
 have s1 := S.ok.slen
 refine ⟨e, ?_⟩
 refine rwG e ?_
 refine ⟨fin_ok S.ok hi H (fun s hs => ?_) (head_app S.ok.bot) (by refine rwG length_append (rwG length_singleton ?_); lia) (by refine rwG length_append (rwG length_singleton ?_); lia), ?_, inc_snoc S.inc h⟩
 ·rcases mem_append.mp hs with hs | hs
  ·exact S.ok.leads s hs
  ·refine rwG (mem_singleton.mp hs) ?_; exact H.lead
 ·show (sk ++ [(⟨l, l⟩ : Sk)]).map (fun p => wsOf p.lead) = (T.stack ++ [leadOf l]).map wsOf
  exact rwG map_append (rwG map_append (rwG S.ws (rwG List.map_singleton (rwG List.map_singleton (rwG ((ws_line hL).1) rfl)))))
theorem step_out (S : Sim i sk T) (hi : i <= 50) (hL : LineOk l) (hd : depthS T.done = 0) (h : under (cols (topL T)) (cols (leadOf l)) = false) (h' : cols (baseL T (leadOf l)) = cols (leadOf l)) :
  stepT T i l = finT T (T.stack.take (T.stack.length - abv T (leadOf l))) (T.row ++ List.replicate (abv T (leadOf l)) 6) (bodyAt l) /\ Sim (i + 1) (sk.take (sk.length - abv T (leadOf l))) (stepT T i l) := by
 have H := hL.at_
 have e : stepT T i l = finT T (T.stack.take (T.stack.length - abv T (leadOf l))) (T.row ++ List.replicate (abv T (leadOf l)) 6) (bodyAt l) := by unfold stepT; rw [if_pos hd, if_neg (by refine rwG h ?_; decide), if_pos h']
 have s1 := S.ok.slen
 have hab : abv T (leadOf l) < T.stack.length := abv_lt S.ok.bot H.lead
 refine ⟨e, ?_⟩
 refine rwG e ?_
 refine ⟨fin_ok S.ok hi H (fun s hs => S.ok.leads s (mem_of_mem_take hs)) (head_take S.ok.bot (by lia)) (by refine rwG length_take ?_; lia) (by refine rwG length_append (rwG length_replicate ?_); lia), ?_, ?_⟩
 ·show (sk.take _).map (fun p => wsOf p.lead) = (T.stack.take _).map wsOf
  exact rwG List.map_take (rwG List.map_take (rwG S.ws (rwG S.len rfl)))
 ·exact S.inc.sublist (List.take_sublist _ _)
theorem step_nag (S : Sim i sk T) (hd : depthS T.done = 0) (h : under (cols (topL T)) (cols (leadOf l)) = false) (h' : ¬ cols (baseL T (leadOf l)) = cols (leadOf l)) :
  stepT T i l = ⟨T.stack, T.row, T.nags ++ [nagD i (nagW (topL T) (baseL T (leadOf l)) (leadOf l)) l], T.done⟩ /\ Sim (i + 1) sk (stepT T i l) := by
 have e : stepT T i l = ⟨T.stack, T.row, T.nags ++ [nagD i (nagW (topL T) (baseL T (leadOf l)) (leadOf l)) l], T.done⟩ := by unfold stepT; rw [if_pos hd, if_neg (by refine rwG h ?_; decide), if_neg h']
 refine ⟨e, ?_⟩
 refine rwG e ?_
 have T' := S.ok
 have t1 := T'.slen
 have t2 := T'.rlen
 have t3 := T'.nlen
 have t4 := T'.dlen
 exact ⟨⟨T'.leads, T'.bot, by show T.stack.length <= _; lia, by show T.row.length <= _; lia, by show (T.nags ++ [_]).length <= _; refine rwG length_append (rwG length_singleton ?_); lia, by show T.done.length <= _; lia⟩, S.ws, S.inc⟩
theorem step_open (S : Sim i sk T) (hi : i <= 50) (hL : LineOk l) (hd : ¬ depthS T.done = 0) :
  stepT T i l = finT T T.stack T.row (bodyAt l) /\ Sim (i + 1) sk (stepT T i l) := by
 have e : stepT T i l = finT T T.stack T.row (bodyAt l) := by unfold stepT; exact rwG (if_neg hd) rfl
 refine ⟨e, ?_⟩
 refine rwG e ?_
 have s1 := S.ok.slen
 exact ⟨fin_ok S.ok hi hL.at_ S.ok.leads S.ok.bot (by lia) (by lia), S.ws, S.inc⟩
theorem line_toks (hL : LineOk l) : cutS (bodyAt l) = numbersS (bodyAt l) /\ depthS (done ++ bodyAt l) = (numbersS (bodyAt l)).foldl deepT (depthS done) /\ (numbersS (bodyAt l)).length <= 6 := by
 have H := hL.at_
 have hc : ∀ c ∈ bodyAt l, op [c] = true := fun c h => (H.chars c h).2.2.2
 have h1 := H.len
 exact ⟨cut_greedy (by lia) (by lia) hc, depth_read hc, Nat.le_trans (numbers_at hc).2 h1.2⟩
noncomputable def c_r1 : CE := .list (.cons (.call (.glob "Whitespace") (.cons (.lit (.str (ofString ""))) .nil)) .nil)
noncomputable def c_r2 : CS := .assignO "row" (.list .nil)
noncomputable def c_r3 : CS := .assignO "nags" (.list .nil)
noncomputable def c_r4 : CS := .assign "deep" (.lit (.int 0))
noncomputable def c_rit : CE := .call (.glob "len") (.cons (.var "lines") .nil)
noncomputable def c_rb1 : CS := .assign "line" (.item (.var "lines") (.var "k"))
noncomputable def c_rb2 : CS := .assign "fits" (.lit (.bool true))
noncomputable def c_rt : CE := .cmp .Eq (.var "deep") (.lit (.int 0))
noncomputable def c_ro : CE := .list (.cons (.glob "LPAR") (.cons (.glob "LSQB") (.cons (.glob "LBRACE") .nil)))
noncomputable def c_rc : CE := .list (.cons (.glob "RPAR") (.cons (.glob "RSQB") (.cons (.glob "RBRACE") .nil)))
noncomputable def c_rtb : CB := .cons (.mutS "row" "append" (.cons (.var "t") .nil))
 (.cons (.ifS (.cmp .In (.var "t") c_ro) (.cons (.aug "deep" .Add (.lit (.int 1))) .nil)
  (.cons (.ifS (.bop .And (.cons (.cmp .In (.var "t") c_rc) (.cons (.cmp .Gt (.var "deep") (.lit (.int 0))) .nil))) (.cons (.aug "deep" .Sub (.lit (.int 1))) .nil) .nil) .nil)) .nil)
noncomputable def c_rno : CE := .call (.glob "_law_numbers") (.cons (.slice (.var "line") (.yes (.attr (.call (.glob "Whitespace") (.cons (.var "line") .nil)) "n")) .no .no) .nil)
noncomputable def c_rb4t : CB := .cons (.forS "t" (.over c_rno) ["deep", "lines", "nags", "row", "stack"] c_rtb) (.cons (.mutS "row" "append" (.cons (.ite (.cmp .Gt (.var "deep") (.lit (.int 0))) (.glob "NL") (.glob "NEWLINE")) .nil)) .nil)
noncomputable def c_rb4 : CS := .ifS (.var "fits") c_rb4t .nil
noncomputable def c_rd6 : CB := .freeze "nags" (.cons (.ret (.tup (.cons (.bin .Add (.bin .Add (.own "row") (.bin .Mult (.list (.cons (.glob "DEDENT") .nil)) (.bin .Sub (.lenO "stack") (.lit (.int 1))))) (.list (.cons (.glob "ENDMARKER") .nil))) (.cons (.var "nags") .nil)))) .nil)
noncomputable def rdR (deep : Int) (lines : D) (nags : List D) (row : List Int) (sk : List Sk) : Ro := [("deep", .v (.int deep)), ("lines", .v lines), ("nags", .own (.list nags)), ("row", .own (.list (rowD row))), ("stack", .own (.list (sksD sk)))]
theorem q_inI {ys : List Int} : cmpD .In (.int a) (.list (ys.map .int)) = some (ys.contains a) := by
 show (intsOf (ys.map .int)).map _ = _
 rw [intsOf_map]
 rfl
theorem in_open {a : Int} : cmpD .In (.int a) (.list [.int 7, .int 9, .int 25]) = some (decide (a ∈ [7, 9, 25])) := by
 refine rwG (show ([D.int 7, .int 9, .int 25] : List D) = ([7, 9, 25] : List Int).map .int from rfl) (rwG q_inI ?_)
 simp [contains_iff_mem, Bool.decide_eq_true]
theorem in_close {a : Int} : cmpD .In (.int a) (.list [.int 8, .int 10, .int 26]) = some (decide (a ∈ [8, 10, 26])) := by
 refine rwG (show ([D.int 8, .int 10, .int 26] : List D) = ([8, 10, 26] : List Int).map .int from rfl) (rwG q_inI ?_)
 simp [contains_iff_mem, Bool.decide_eq_true]
theorem body_tok {K : Fl -> Ro -> Prop} (hr : row.length <= 100000) (h : ∀ ρ, keepR ["deep", "lines", "nags", "row", "stack"] ρ = rdR (deepT d t) L nags (row ++ [t]) sk -> K .next ρ) :
  exsW (cx tb U2) c_rtb (("t", .v (.int t)) :: rdR d L nags row sk) K := by
 unfold c_rtb rdR c_ro c_rc
 ktr_room
 refine ask_of (q_app (by unfold rowD; rw [length_map, sizeLine_eq]; lia)) ?_
 ktr_room
 refine ⟨by refine rwG sizeLine_eq ?_; simp, ?_⟩
 refine ask_of in_open ?_
 have er : rowD row ++ [D.int t] = rowD (row ++ [t]) := by unfold rowD; refine rwG map_append ?_; rfl
 unfold deepT at h
 refine ⟨fun e => ?_, fun e => ?_⟩
 ·have e := of_decide_eq_true e
  rw [if_pos e] at h
  refine h _ ?_
  refine rwG er ?_
  rfl
 ·have e := of_decide_eq_false e
  rw [if_neg e] at h
  refine ⟨by refine rwG sizeLine_eq ?_; simp, ?_⟩
  refine ask_of in_close ?_
  refine ⟨fun e2 => ?_, fun e2 => ?_⟩
  ·have e2 := of_decide_eq_true e2
   refine ⟨fun e3 => ?_, fun e3 => ?_⟩
   ·have e3 := of_decide_eq_true e3
    rw [if_pos ⟨e2, e3⟩] at h
    refine h _ ?_
    refine rwG er ?_
    rfl
   ·have e3 := of_decide_eq_false e3
    rw [if_neg (fun q => e3 q.2)] at h
    refine h _ ?_
    refine rwG er ?_
    rfl
  ·have e2 := of_decide_eq_false e2
   rw [if_neg (fun q => e2 q.1)] at h
   refine ⟨(fun q => nomatch q), fun _ => h _ ?_⟩
   refine rwG er ?_
   rfl
theorem loop_tok {L : D} {nags : List D} {sk : List Sk} {K : Fl -> Ro -> Prop} : ∀ (ts : List Int) (d : Int) (row : List Int), row.length + ts.length <= 100000 -> K .next (rdR (ts.foldl deepT d) L nags (row ++ ts) sk) ->
  forL (fun d' ρ' => exsW (cx tb U2) c_rtb (("t", .v d') :: ρ')) ["deep", "lines", "nags", "row", "stack"] (ts.map .int) (rdR d L nags row sk) K
 | [], d, row, _, h => by
  rw [append_nil] at h
  exact h
 | t :: ts, d, row, hl, h => by
  refine rwG map_cons ?_
  unfold forL
  rw [length_cons] at hl
  refine body_tok (by lia) fun ρ hρ => ?_
  show forL _ _ _ (keepR _ ρ) K
  refine rwG hρ ?_
  refine loop_tok ts _ _ (by refine rwG length_append (rwG length_singleton ?_); lia) ?_
  rw [append_assoc]
  exact h
theorem q_dropS {a : Nat} (h : l.length <= 1000) : sliceD (.str (st l)) (some (.int (a : Int))) none none = some (.str (st (l.drop a))) := by
 rw [q_sliceS (lo := some (a : Int)) (hi := none) rfl rfl (by refine rwG sizeLine_eq ?_; lia)]
 simp only [Option.elim_some, Option.elim_none, clipAt_nat]
 congr 3
 by_cases ha : a <= l.length
 ·rw [Nat.min_eq_left ha, take_of_length_le (by refine rwG length_drop ?_; lia)]
 ·refine rwG (Nat.min_eq_right (show l.length <= a by lia)) (rwG (drop_of_length_le (Nat.le_refl _)) (rwG (drop_of_length_le (show l.length <= a by lia)) ?_))
  simp
noncomputable def rdToks (l : List Nat) : List Int := numbersS (bodyAt l)
theorem w_rno {K : D -> Prop} (hL : LineOk l) (h2 : ρ.lookup "line" = some (.v (.str (st l)))) (h : K (.list ((rdToks l).map .int))) : evW (cx tb U2) ρ c_rno K := by
 have H := hL.at_
 refine xAA (ws_line hL) fun e1 e2 e3 => ?_
 have hll : l.length <= 900 := by
  have : l.length = (leadOf l ++ bodyAt l).length := by exact rwG (Eq.symm H.eq) rfl
  refine rwG this (rwG length_append ?_)
  have := H.lead.len
  have := H.len
  lia
 unfold c_rno
 (ktr_room; repeat (simp only [h2]; ktr_room))
 refine ⟨l, rfl, hll, ?_⟩
 dsimp only
 refine rwG a_n ?_
 refine ask_of (q_dropS (by lia)) ?_
 refine rwG e3 ?_
 refine ⟨bodyAt l, rfl, by have := H.len; lia, fun c hc => (H.chars c hc).2.2.2, h⟩
theorem w_rb4 {d : Int} {L : D} {K : Fl -> Ro -> Prop} (hL : LineOk l) (h1 : ρ.lookup "fits" = some (.v (.bool true))) (h2 : ρ.lookup "line" = some (.v (.str (st l)))) (hρ : keepR ["deep", "lines", "nags", "row", "stack"] ρ = rdR d L nags row sk) (hr : row.length <= 90000)
  (h : ∀ ρ', keepR ["deep", "lines", "nags", "row", "stack"] ρ' = rdR ((rdToks l).foldl deepT d) L nags (row ++ rdToks l ++ [if (rdToks l).foldl deepT d > 0 then 63 else 4]) sk -> K .next ρ') : exW (cx tb U2) c_rb4 ρ K := by
 have hlen : (rdToks l).length <= 6 := (line_toks (done := []) hL).2.2
 unfold c_rb4; dsimp only [exW, evW]
 refine rwG h1 ?_
 refine ⟨fun _ => ?_, fun q => nomatch q⟩
 unfold c_rb4t; dsimp only [exsW, exW, itW]
 refine w_rno hL h2 ?_
 show forL _ _ ((rdToks l).map .int) _ _
 refine rwG hρ ?_
 refine loop_tok (rdToks l) d row (by lia) ?_
 have er : ∀ t : Int, rowD (row ++ rdToks l) ++ [D.int t] = rowD (row ++ rdToks l ++ [t]) := fun t => by unfold rowD; refine rwG (map_append (l₂ := [t])) ?_; rfl
 generalize (rdToks l).foldl deepT d = d' at *
 unfold rdR
 ktr_room
 refine ⟨fun e => ?_, fun e => ?_⟩
 ·have e := of_decide_eq_true e
  refine ask_of (q_app (by unfold rowD; rw [length_map, length_append, sizeLine_eq]; lia)) ?_
  rw [er]
  refine h _ ?_
  refine rwG (if_pos e) ?_
  rfl
 ·have e := of_decide_eq_false e
  refine ask_of (q_app (by unfold rowD; rw [length_map, length_append, sizeLine_eq]; lia)) ?_
  rw [er]
  refine h _ ?_
  refine rwG (if_neg e) ?_
  rfl
theorem w_rb4f {K : Fl -> Ro -> Prop} (h1 : ρ.lookup "fits" = some (.v (.bool false))) (h : K .next ρ) : exW (cx tb U2) c_rb4 ρ K := by
 unfold c_rb4; dsimp only [exW, evW]
 refine rwG h1 ?_
 exact ⟨(fun q => nomatch q), fun _ => h⟩
theorem w_rb1 {k : Nat} {K : Fl -> Ro -> Prop} (h1 : ρ.lookup "lines" = some (.v (.list (strsD lines)))) (h2 : ρ.lookup "k" = some (.v (.int (k : Int)))) (hl : lines[k]? = some l) (hk : k <= 900) (h : K .next (("line", .v (.str (st l))) :: ρ)) : exW (cx tb U2) c_rb1 ρ K := by
 unfold c_rb1
 (ktr_room; repeat (simp only [h1, h2]; ktr_room))
 have hi : itemD (.list (strsD lines)) (.int (k : Int)) = some (.str (st l)) := by
  have hlt := (List.getElem?_eq_some_iff.mp hl).1
  show (if smallB (k : Int) = true then atL (strsD lines) (k : Int) else none) = _
  refine rwG (if_pos (smallN (by lia))) ?_
  unfold atL
  rw [seqIndex_of (by lia) (by unfold strsD; rw [length_map]; lia)]
  unfold strsD
  rw [Option.bind_some, List.getElem?_map, Int.toNat_natCast, hl]
  rfl
 refine ask_of hi ?_
 exact h
theorem w_rb2 {K : Fl -> Ro -> Prop} (h : K .next (("fits", .v (.bool true)) :: ρ)) : exW (cx tb U2) c_rb2 ρ K := by
 unfold c_rb2; dsimp only [exW, evW]
 exact h
theorem w_rt (h1 : ρ.lookup "deep" = some (.v (.int d))) (h : q (d == 0)) : evW (cx tb U2) ρ c_rt (onBool q) := by
 unfold c_rt
 (ktr_room; repeat (simp only [h1]; ktr_room))
 exact h
theorem w_rit (h1 : ρ.lookup "lines" = some (.v (.list (strsD lines)))) (hl : lines.length <= 900) : evW (cx tb U2) ρ c_rit fun d => d = .int (lines.length : Int) := by
 unfold c_rit
 (ktr_room; repeat (simp only [h1]; ktr_room))
 refine ask_of (q_lenL (by unfold strsD; rw [length_map, sizeLine_eq]; lia)) ?_
 unfold strsD
 rw [length_map]
theorem w_r1 : evW (cx tb U2) ρ c_r1 fun d => d = .list (sksD [⟨[], []⟩]) := by
 unfold c_r1
 ktr_room
 exact ⟨[], by exact rwG (show ofString "" = st [] from by decide +kernel) rfl, by decide, by refine rwG sizeLine_eq ?_; simp, rfl⟩
theorem w_rd6 {K : D -> Prop} (hr : row.length <= 90000) (hs : 0 < sk.length) (hs' : sk.length <= 700) (h : K (.tup [.list (rowD (row ++ List.replicate (sk.length - 1) 6 ++ [0])), .list nags])) :
  exsW (cx tb U2) c_rd6 (rdR d L nags row sk) (fun fl _ => retK K fl) := by
 unfold c_rd6 rdR
 ktr_room
 rw [q_lenL (by rw [sksD_len, sizeLine_eq]; lia), ask_some, sksD_len]
 ktr_room
 refine ⟨by refine rwG sizeLine_eq ?_; simp, ?_⟩
 refine rwG (show (sk.length : Int) - 1 = ((sk.length - 1 : Nat) : Int) by lia) ?_
 refine ask_of (q_mulL (by simp only [length_singleton, Int.toNat_natCast]; lia) (smallN (by lia))) ?_
 rw [Int.toNat_natCast, rep_six]
 refine ask_of (q_addL (by unfold rowD; rw [length_map, length_map, length_replicate, sizeLine_eq]; lia)) ?_
 refine ⟨by refine rwG sizeLine_eq ?_; simp, ?_⟩
 refine ask_of (q_addL (by unfold rowD; rw [length_append, length_map, length_map, length_replicate, sizeLine_eq]; simp only [length_singleton]; lia)) ?_
 refine ⟨by refine rwG sizeLine_eq ?_; simp, ?_⟩
 unfold rowD at h ⊢
 rw [map_append, map_append] at h
 exact h
structure ReadAt (names : List (Str × NameKind)) (sn : Str) (v0 : Expr) (s2 s3 s4 : Stmt) (kn : Str) (iter : Expr) (b1 b2 : Stmt) (t : Expr) (rn : Str) (ap cp : Pos) (f : Expr) (b4 s6 : Stmt) : Prop where
 hs : isStore names "stack" sn = true
 h1 : mE names c_r1 v0 = true
 hc : isComp v0 = false
 h2 : mS names c_r2 s2 = true
 h3 : mS names c_r3 s3 = true
 h4 : mS names c_r4 s4 = true
 hk : isStore names "k" kn = true
 hi : mI names (.rng1 c_rit) iter = true
 hb1 : mS names c_rb1 b1 = true
 hb2 : mS names c_rb2 b2 = true
 ht : mE names c_rt t = true
 hr : isNm "row" rn = true
 hp : (ap.endLine == cp.line) = true
 hf : mE names c_rs f = true
 hb4 : mS names c_rb4 b4 = true
 h6 : mB names c_rd6 [s6] = true
inductive ReadB (names : List (Str × NameKind)) (b : List Stmt) : Prop
 | mk (sn : Str) (p1 : Pos) (v0 : Expr) (p2 : Pos) (s2 : Stmt) (s3 : Stmt) (s4 : Stmt) (kn : Str) (p3 : Pos) (iter : Expr) (b1 : Stmt) (b2 : Stmt) (t : Expr) (rn : Str) (p4 : Pos) (ap : Pos) (f : Expr) (cp : Pos) (p5 : Pos) (nx : Str) (np : Pos) (gn : Str) (p6 : Pos) (ap2 : Pos) (n1 : Str) (q1 : Pos) (a1 : Pos) (c1 : Pos) (n2 : Str) (q2 : Pos) (a2 : Pos) (c2 : Pos) (n3 : Str) (q3 : Pos) (a3 : Pos) (c3 : Pos) (tk : Nat) (tp : Pos) (cp2 : Pos) (p7 : Pos) (fs : Stmt) (p8 : Pos) (p9 : Pos) (p10 : Pos) (b4 : Stmt) (p11 : Pos) (s6 : Stmt) (hb :
  b = [.Assign [.Name sn p1] v0 p2, s2, s3, s4, .For (.Name kn p3) iter [b1, b2, .If t [.Try [.Expr (.Call (.Attribute (.Name rn p4) (ofString "extend") ap) [f] [] cp) p5]
   [.ExceptHandler (some (.Name nx np)) (some (ofString "nag")) [.Expr (.Call (.Attribute (.Name gn p6) (ofString "append") ap2) [.Tuple [nagE n1 q1 "get_lineno" a1 c1, nagE n2 q2 "get_msg" a2 c2, nagE n3 q3 "get_line" a3 c3] tk tp] [] cp2) p7, fs] p8] [] [] p9] [] p10, b4] [] p11, s6])
  (F : ReadAt names sn v0 s2 s3 s4 kn iter b1 b2 t rn ap cp f b4 s6) (H : HandAt names nx np gn n1 n2 n3 ap2 cp2 a1 c1 a2 c2 a3 c3 fs) : ReadB names b
noncomputable def wNag (e : Expr) (m : Str) (k : Bool) : Bool := wCall e fun g as ks c => w0 as (w0 ks (wAtt g fun o m' a => wName o fun n _ => m' == m && isNm "nag" n && a.endLine == c.line && k))
@[elab_as_elim] theorem wNag_E {C : Expr -> Prop} (h : wNag e m k = true) (cc : ∀ n q a c, isNm "nag" n = true -> (a.endLine == c.line) = true -> k = true -> C (nagE n q m a c)) : C e := by
 refine wCall_E h fun g as ks c h1 => ?_
 refine w0_E h1 fun h2 => ?_
 refine w0_E h2 fun h3 => ?_
 refine wAtt_E h3 fun o m' a h4 => ?_
 refine wName_E h4 fun n q h5 => ?_
 refine an4 h5 fun h6 h7 h8 h9 => ?_
 exact eq_of_beq h6 ▸ cc n q a c h7 h8 h9
noncomputable def hdM (ha : Stmt) : Bool := wExp ha fun hc _ => wCall hc fun g as ks cp => w0 ks (w1 as fun tu => wAtt g fun o apn ap => wName o fun gn _ => wTup tu fun xs _ _ => w3 xs fun e1 e2 e3 => wNag e1 "get_lineno" (wNag e2 "get_msg" (wNag e3 "get_line" (apn == ofString "append" && isNm "nags" gn && ap.endLine == cp.line))))
inductive HdB (ha : Stmt) : Prop
 | mk (gn : Str) (p6 ap2 : Pos) (n1 : Str) (q1 a1 c1 : Pos) (n2 : Str) (q2 a2 c2 : Pos) (n3 : Str) (q3 a3 c3 : Pos) (tk : Nat) (tp cp2 p7 : Pos) (hb : ha = .Expr (.Call (.Attribute (.Name gn p6) (ofString "append") ap2) [.Tuple [nagE n1 q1 "get_lineno" a1 c1, nagE n2 q2 "get_msg" a2 c2, nagE n3 q3 "get_line" a3 c3] tk tp] [] cp2) p7)
  (h1 : isNm "nag" n1 = true) (h2 : isNm "nag" n2 = true) (h3 : isNm "nag" n3 = true) (k1 : (a1.endLine == c1.line) = true) (k2 : (a2.endLine == c2.line) = true) (k3 : (a3.endLine == c3.line) = true) (hg : isNm "nags" gn = true) (hp : (ap2.endLine == cp2.line) = true) : HdB ha
theorem hdM_inv {ha : Stmt} (h : hdM ha = true) : HdB ha := by
 refine wExp_E h fun hc p7 g1 => ?_
 refine wCall_E g1 fun g as ks cp g2 => ?_
 refine w0_E g2 fun g3 => ?_
 refine w1_E g3 fun tu g4 => ?_
 refine wAtt_E g4 fun o apn ap g5 => ?_
 refine wName_E g5 fun gn p6 g6 => ?_
 refine wTup_E g6 fun xs tk tp g7 => ?_
 refine w3_E g7 fun e1 e2 e3 g8 => ?_
 refine wNag_E g8 fun n1 q1 a1 c1 h1 k1 g9 => ?_
 refine wNag_E g9 fun n2 q2 a2 c2 h2 k2 g10 => ?_
 refine wNag_E g10 fun n3 q3 a3 c3 h3 k3 g11 => ?_
 refine an3 g11 fun z1 z2 z3 => ?_
 exact ⟨_, _, _, _, _, _, _, _, _, _, _, _, _, _, _, _, _, _, _, by exact rwG (eq_of_beq z1) rfl, h1, h2, h3, k1, k2, k3, z2, z3⟩
noncomputable def exM (names : List (Str × NameKind)) (se : Stmt) : Bool := wExp se fun ce _ => wCall ce fun g as ks cp => w0 ks (w1 as fun f => wAtt g fun o ex ap => wName o fun rn _ => isNm "row" rn && ap.endLine == cp.line && mE names c_rs f && ex == ofString "extend")
theorem exM_inv (h : exM names se = true) : ∃ rn p4 ap f cp p5, se = .Expr (.Call (.Attribute (.Name rn p4) (ofString "extend") ap) [f] [] cp) p5 /\ isNm "row" rn = true /\ (ap.endLine == cp.line) = true /\ mE names c_rs f = true := by
 refine wExp_E h fun ce p5 g1 => ?_
 refine wCall_E g1 fun g as ks cp g2 => ?_
 refine w0_E g2 fun g3 => ?_
 refine w1_E g3 fun f g4 => ?_
 refine wAtt_E g4 fun o ex ap g5 => ?_
 refine wName_E g5 fun rn p4 g6 => ?_
 refine an4 g6 fun z1 z2 z3 z4 => ?_
 exact ⟨_, _, _, _, _, _, by exact rwG (eq_of_beq z4) rfl, z1, z2, z3⟩
noncomputable def ehM (names : List (Str × NameKind)) (eh : ExceptHandler) : Bool := wEh eh fun ty nm hb _ => wSome ty fun tx => wName tx fun nx np => wSome nm fun ng => w2 hb fun ha fs => ng == ofString "nag" && mE names (.glob "NannyNag") (.Name nx np) && mS names (.assign "fits" (.lit (.bool false))) fs && hdM ha
theorem ehM_inv (h : ehM names eh = true) : ∃ nx np ha fs p8, eh = .ExceptHandler (some (.Name nx np)) (some (ofString "nag")) [ha, fs] p8 /\ mE names (.glob "NannyNag") (.Name nx np) = true /\ mS names (.assign "fits" (.lit (.bool false))) fs = true /\ hdM ha = true := by
 refine wEh_E h fun ty nm hb p8 g1 => ?_
 refine wSome_E g1 fun tx g2 => ?_
 refine wName_E g2 fun nx np g3 => ?_
 refine wSome_E g3 fun ng g4 => ?_
 refine w2_E g4 fun ha fs g5 => ?_
 refine an4 g5 fun z1 z2 z3 z4 => ?_
 exact ⟨_, _, _, _, _, by exact rwG (eq_of_beq z1) rfl, z2, z3, z4⟩
noncomputable def biM (names : List (Str × NameKind)) (bi : Stmt) : Bool := wIf bi fun t ib io _ => w0 io (w1 ib fun st => wTry st fun tb hs to tf _ => w0 to (w0 tf (w1 tb fun se => w1 hs fun eh => mE names c_rt t && exM names se && ehM names eh)))
theorem biM_inv (h : biM names bi = true) : ∃ t se eh p9 p10, bi = .If t [.Try [se] [eh] [] [] p9] [] p10 /\ mE names c_rt t = true /\ exM names se = true /\ ehM names eh = true := by
 refine wIf_E h fun t ib io p10 g1 => ?_
 refine w0_E g1 fun g2 => ?_
 refine w1_E g2 fun st g3 => ?_
 refine wTry_E g3 fun tb hs to tf p9 g4 => ?_
 refine w0_E g4 fun g5 => ?_
 refine w0_E g5 fun g6 => ?_
 refine w1_E g6 fun se g7 => ?_
 refine w1_E g7 fun eh g8 => ?_
 refine an3 g8 fun z1 z2 z3 => ?_
 exact ⟨_, _, _, _, _, rfl, z1, z2, z3⟩
noncomputable def foM (names : List (Str × NameKind)) (sf : Stmt) : Bool := wFor sf fun tn iter fb fo _ => w0 fo (wName tn fun kn _ => wCons fb fun b1 r => w3 r fun b2 bi b4 => isStore names "k" kn && mI names (.rng1 c_rit) iter && mS names c_rb1 b1 && mS names c_rb2 b2 && mS names c_rb4 b4 && biM names bi)
theorem foM_inv (h : foM names sf = true) : ∃ kn p3 iter b1 b2 bi b4 p11, sf = .For (.Name kn p3) iter [b1, b2, bi, b4] [] p11 /\ isStore names "k" kn = true /\ mI names (.rng1 c_rit) iter = true /\ mS names c_rb1 b1 = true /\ mS names c_rb2 b2 = true /\ mS names c_rb4 b4 = true /\ biM names bi = true := by
 refine wFor_E h fun tn iter fb fo p11 g1 => ?_
 refine w0_E g1 fun g2 => ?_
 refine wName_E g2 fun kn p3 g3 => ?_
 refine wCons_E g3 fun b1 r g4 => ?_
 refine w3_E g4 fun b2 bi b4 g5 => ?_
 refine an6 g5 fun z1 z2 z3 z4 z5 z6 => ?_
 exact ⟨_, _, _, _, _, _, _, _, rfl, z1, z2, z3, z4, z5, z6⟩
noncomputable def readM (names : List (Str × NameKind)) (b : List Stmt) : Bool := wCons b fun s1 r => wCons r fun s2 r => wCons r fun s3 r => w3 r fun s4 sf s6 => mS names (.assignO "stack" c_r1) s1 && mS names c_r2 s2 && mS names c_r3 s3 && mS names c_r4 s4 && foM names sf && mB names c_rd6 [s6] && isStore names "nag" (ofString "nag") && names.lookup (ofString "nag") == some .local
theorem readM_inv (h : readM names b = true) : ReadB names b := by
 refine wCons_E h fun s1 r1 g1 => ?_
 refine wCons_E g1 fun s2 r2 g2 => ?_
 refine wCons_E g2 fun s3 r3 g3 => ?_
 refine w3_E g3 fun s4 sf s6 g4 => ?_
 refine an8 g4 fun z1 z2 z3 z4 z5 z6 z7 z8 => ?_
 apply xEEEEAAAAq1L (inv_assignO z1); intro sn p1 v0 p2 x1 x2 _ x3
 apply xEEEEEEEEAAAAAAq1L (foM_inv z5); intro kn p3 iter b1 b2 bi b4 p11 y1 y2 y3 y4 y5 y6
 apply xEEEEEAAAq1L (biM_inv y6); intro t se eh p9 p10 t1 t2 t3
 apply xEEEEEEAAAq1L (exM_inv t2); intro rn p4 ap f cp p5 u1 u2 u3
 apply xEEEEEAAAq1L (ehM_inv t3); intro nx np ha fs p8 v1 v2 v3
 obtain ⟨gn, p6, ap2, n1, q1, a1, c1, n2, q2, a2, c2, n3, q3, a3, c3, tk, tp, cp2, p7, rfl, w1, w2, w3, w4, w5, w6, w7, w8⟩ := hdM_inv v3
 exact ⟨_, _, _, _, _, _, _, _, _, _, _, _, _, _, _, _, _, _, _, _, _, _, _, _, _, _, _, _, _, _, _, _, _, _, _, _, _, _, _, _, _, _, _, _, _, _, _, rfl, ⟨x1, x2, x3, z2, z3, z4, y1, y2, y3, y4, t1, u1, u2, u3, y5, z6⟩, ⟨v1, z7, w7, w1, w2, w3, w8, w4, w5, w6, v2, eq_of_beq z8⟩⟩
theorem f_read (X : (KK P).In hT) : FnAt hT 183 (fdOf (KK P) 183) (bodyOf (fdOf (KK P) 183)) ["lines"] := fnAt_of X (by kernel_rfl) fun vs h => by
 apply xEq1L (len1 h); intro a
 kernel_rfl
theorem m_read (P : Params) : readM (fdOf (KK P) 183).scope.names (bodyOf (fdOf (KK P) 183)) = true := by kernel_rfl
theorem k_read (P : Params) : keepIn (KK P) (.ref 183) = true := by kernel_rfl
theorem cells_read (P : Params) : ((fdOf (KK P) 183).scope.names.all fun y => y.2 != .cell) = true := by kernel_rfl
theorem rds4 (r : Rds P h X [d1, d2, d3, d4, d5] us) : ∃ u1 u2 u3 u4 u5, us = [u1, u2, u3, u4, u5] /\ Rd P h X d1 u1 /\ Rd P h X d2 u2 /\ Rd P h X d3 u3 /\ Rd P h X d4 u4 /\ Rd P h X d5 u5 := by
 refine r.consE fun _ _ r1 r => ?_
 refine r.consE fun _ _ r2 r => ?_
 refine r.consE fun _ _ r3 r => ?_
 refine r.consE fun _ _ r4 r => ?_
 refine r.consE fun _ _ r5 r => ?_
 refine r.nilE ?_
 exact ⟨_, _, _, _, _, rfl, r1, r2, r3, r4, r5⟩
theorem rds2 (r : Rds P h X [d1, d2] us) : ∃ u1 u2, us = [u1, u2] /\ Rd P h X d1 u1 /\ Rd P h X d2 u2 := by
 refine r.consE fun _ _ r1 r => ?_
 refine r.consE fun _ _ r2 r => ?_
 refine r.nilE ?_
 exact ⟨_, _, rfl, r1, r2⟩
theorem ws_avoid (ha : h.get? a = some (listOf vs n)) (r : Rd P h X (skD p) v) : Rd P h (fun b => X b \/ b = a) (skD p) v := by
 unfold skD wsD at *
 have ne : ∀ {b : Addr} {o : Obj}, h.get? b = some o -> o.cls ≠ .type "list" -> b ≠ a := fun e hn q => by
  rw [q, ha] at e
  exact hn (congrArg Obj.cls (osi e)).symm
 refine r.instE fun _ dx es m h1 h2 h3 h4 h5 h6 => ?_
 refine .inst (fun q => q.elim h1 (ne h3 nofun)) (fun q => q.elim h2 (ne h4 (fun z => absurd (Value.type.inj z) (by decide)))) h3 h4 h5 ?_
 obtain ⟨u1, u2, u3, u4, u5, e, r1, r2, r3, r4, r5⟩ := rds4 h6
 refine rwG e ?_
 refine .cons (r1.flat rfl) (.cons (r2.flat rfl) (.cons (r3.flat rfl) (.cons ?_ (.cons (r5.flat rfl) .nil))))
 unfold normD at r4 ⊢
 refine r4.tupE fun _ _ _ g1 g2 g3 => ?_
 refine .tup (fun q => q.elim g1 (ne g2 (fun z => absurd (Value.type.inj z) (by decide)))) g2 ?_
 refine xEEAA (rds2 g3) fun w1 w2 e' s1 s2 => ?_
 refine rwG e' ?_
 refine .cons ?_ (.cons (s2.flat rfl) .nil)
 refine s1.tupE fun _ _ _ f1 f2 f3 => ?_
 exact .tup (fun q => q.elim f1 (ne f2 (fun z => absurd (Value.type.inj z) (by decide)))) f2 (f3.flat (by refine rwG List.all_map ?_; exact all_eq_true.mpr fun _ _ => rfl))
theorem runT_snoc (lines : List (List Nat)) : ∀ (ks : List Nat) (k : Nat) (S : TS), runT lines (ks ++ [k]) S = stepT (runT lines ks S) k (lines.getD k [])
 | [], _, _ => rfl
 | _ :: ks, k, _ => runT_snoc lines ks k _
noncomputable def T0 : TS := ⟨[[]], [], [], []⟩
noncomputable def tAt (lines : List (List Nat)) (i : Nat) : TS := runT lines (List.range i) T0
theorem tAt_succ (lines : List (List Nat)) (i : Nat) : tAt lines (i + 1) = stepT (tAt lines i) i (lines.getD i []) := by
 unfold tAt
 rw [List.range_succ, runT_snoc]
noncomputable def rdInv (lines : List (List Nat)) (i : Nat) (ρ : Ro) : Prop := ∃ sk, Sim i sk (tAt lines i) /\ ρ = rdR (depthS (tAt lines i).done) (.list (strsD lines)) (tAt lines i).nags (tAt lines i).row sk
theorem sim0 (lines : List (List Nat)) : Sim 0 [⟨[], []⟩] (tAt lines 0) := by
 refine ⟨⟨fun l hl => ?_, rfl, Nat.le_refl 1, Nat.le_refl 0, Nat.le_refl 0, Nat.le_refl 0⟩, rfl, List.pairwise_singleton _ _⟩
 refine rwG (mem_singleton.mp hl) ?_
 exact ⟨(fun c hc => nomatch hc), by decide⟩
section
variable {env : Env} {X M X' : Addr -> Prop} {s σ σ₁ : Shared} {ρ : Ro} {names : List (Str × NameKind)} {outer : List Env}
theorem read_body (W : Wd w hT) (hA : Room 7 A) {X₀ X₁ : Addr -> Prop} (hL : ∀ l ∈ lines, LineOk l) (hlen : lines.length <= 50) (hi : i < lines.length) (hv : rdInv lines i ρ) (hI : s.heap.get? I = none)
  (J : Fr1 w hT env X (fun a => X₀ a \/ a = I) M s X₁ (("k", .v (.int (i : Int))) :: ρ) σ₁) (R : Rdy A env (fun a => X₀ a \/ a = I) M outer s) (hn : env.scope.names = names)
  {kn : Str} {iter : Expr} {b1 b2 : Stmt} {t : Expr} {rn : Str} {p4 ap cp p5 : Pos} {f : Expr} {b4 s6 : Stmt} (F : ReadAt names sn v0 s2 s3 s4 kn iter b1 b2 t rn ap cp f b4 s6)
  {nx : Str} {np : Pos} {gn n1 n2 n3 : Str} {p6 q1 q2 q3 ap2 cp2 a1 c1 a2 c2 a3 c3 tp p7 p8 p9 p10 : Pos} {tk : Nat} {fs : Stmt} (H : HandAt names nx np gn n1 n2 n3 ap2 cp2 a1 c1 a2 c2 a3 c3 fs) :
  wpAny (model prog w) A (execs [b1, b2, .If t [.Try [.Expr (.Call (.Attribute (.Name rn p4) (ofString "extend") ap) [f] [] cp) p5]
   [.ExceptHandler (some (.Name nx np)) (some (ofString "nag")) [.Expr (.Call (.Attribute (.Name gn p6) (ofString "append") ap2) [.Tuple [nagE n1 q1 "get_lineno" a1 c1, nagE n2 q2 "get_msg" a2 c2, nagE n3 q3 "get_line" a3 c3] tk tp] [] cp2) p7, fs] p8] [] [] p9] [] p10, b4] env)
   (fun fl σ₂ => fl = .next /\ (∀ o, σ₁.heap.get? I = some o -> σ₂.heap.get? I = some o) /\ ∃ ρ₂ X₂, rdInv lines (i + 1) (keepR ["deep", "lines", "nags", "row", "stack"] ρ₂) /\ Fr1 w hT env X (fun a => X₀ a \/ a = I) M s X₂ ρ₂ σ₂) FF σ₁ := by
 have C := cx2 (prog := prog) W (hA.less (by decide : 3 <= 7))
 refine xEA hv fun sk S z1q => ?_; (try clear hv); obtain rfl := z1q
 obtain ⟨l, hl⟩ : ∃ l, lines[i]? = some l := ⟨lines[i], List.getElem?_eq_getElem hi⟩
 have hLl := hL l (List.mem_of_getElem? hl)
 have eT : tAt lines (i + 1) = stepT (tAt lines i) i l := by rw [tAt_succ, List.getD_eq_getElem?_getD, hl]; rfl
 generalize tAt lines i = T at *
 have hMI : ¬ M I := fun q => by
  refine xAEA (R.hfun.mem ((R.hout I).mpr q)) fun _ o e _ => ?_
  exact clash hI e
 have rlen := S.ok.rlen
 have nlen := S.ok.nlen
 refine xAA (line_toks (done := T.done) hLl) fun e1 e2 e3 => ?_
 refine J.nxK W C F.hb1 hn (w_rb1 (lines := lines) (l := l) (k := i) (K := fun fl ρ => fl = .next /\ ρ = _) rfl rfl hl (by lia) ⟨rfl, rfl⟩) fun σ₂ X₂ J₂ kx₂ => ?_
 refine J₂.nxK W C F.hb2 hn (w_rb2 (K := fun fl ρ => fl = .next /\ ρ = _) ⟨rfl, rfl⟩) fun σ₃ X₃ J₃ kx₃ => ?_
 have kI₃ : ∀ o, σ₁.heap.get? I = some o -> σ₃.heap.get? I = some o := fun o e => kx₃ _ o (.inr rfl) (kx₂ _ o (.inr rfl) e)
 have fits : ∀ {sk' : List Sk} {row' : List Int} {stack' : List (List Nat)} {ρ' : Ro} {X'' : Addr -> Prop} {σ' : Shared}, Fr1 w hT env X (fun a => X₀ a \/ a = I) M s X'' ρ' σ' -> (∀ o, σ₁.heap.get? I = some o -> σ'.heap.get? I = some o) -> ρ'.lookup "fits" = some (.v (.bool true)) -> ρ'.lookup "line" = some (.v (.str (st l))) ->
   keepR ["deep", "lines", "nags", "row", "stack"] ρ' = rdR (depthS T.done) (.list (strsD lines)) T.nags row' sk' -> row'.length <= 90000 -> stepT T i l = finT T stack' row' (bodyAt l) -> Sim (i + 1) sk' (stepT T i l) ->
   wpAny (model prog w) A (execs [b4] env) (fun fl σ₂ => fl = .next /\ (∀ o, σ₁.heap.get? I = some o -> σ₂.heap.get? I = some o) /\ ∃ ρ₂ X₂, rdInv lines (i + 1) (keepR ["deep", "lines", "nags", "row", "stack"] ρ₂) /\ Fr1 w hT env X (fun a => X₀ a \/ a = I) M s X₂ ρ₂ σ₂) FF σ' := by
  intro sk' row' stack' ρ' X'' σ' J' kI' l1 l2 kr hr eS S'
  refine wpAny_execs_cons (J'.exK W C F.hb4 hn (w_rb4 (K := fun fl ρ => fl = .next /\ keepR ["deep", "lines", "nags", "row", "stack"] ρ = _) hLl l1 l2 kr hr (fun ρ'' e => ⟨rfl, e⟩)) fun fl σ₅ fl' ρ₅ X₅ hK J₅ hf₅ kx₅ => ?_)
  refine xA hK fun z1q hρ => ?_; (try clear hK); obtain rfl := z1q
  cases fl <;> first | exact hf₅.elim | skip
  refine wpAny_execs_nil ⟨rfl, fun o e => kx₅ _ o (.inr rfl) (kI' o e), ρ₅, X₅, ⟨sk', by refine rwG eT ?_; exact S', ?_⟩, J₅⟩
  refine rwG hρ (rwG eT (rwG eS ?_))
  unfold finT
  dsimp only
  unfold rdToks
  have hd := depth_nonneg (T.done ++ bodyAt l)
  refine rwG e1 (rwG (Eq.symm e2) ?_)
  congr 2
  by_cases q : depthS (T.done ++ bodyAt l) = 0
  ·exact rwG (if_pos q) (rwG (if_neg (by lia)) rfl)
  ·exact rwG (if_neg q) (rwG (if_pos (by lia)) rfl)
 refine wpAny_execs_cons (wpAny_If (noE ((evA C c_rt).2.use F.ht rfl hn J₃.st (w_rt (d := depthS T.done) (q := fun b => b = (depthS T.done == 0)) rfl rfl) fun b σ₄ k₄ S₄ hb₄ => ?_)))
 have J₄ := J₃.keeps k₄
 have kI₄ : ∀ o, σ₁.heap.get? I = some o -> σ₄.heap.get? I = some o := fun o e => kh k₄ _ _ (kI₃ o e)
 subst hb₄
 cases e0 : (depthS T.done == 0) with
 | false =>
  have e0 : ¬ depthS T.done = 0 := by simpa using e0
  obtain ⟨eS, S'⟩ := step_open S (by lia) hLl e0
  exact wpAny_execs_nil (fits (row' := T.row) J₄ kI₄ rfl rfl rfl (by lia) eS S')
 | true =>
  have e0 : depthS T.done = 0 := by simpa using e0
  obtain ⟨top, elder, P⟩ := step_at S (by lia) hLl
  have hab : abv T (leadOf l) < T.stack.length := abv_lt S.ok.bot hLl.at_.lead
  have slen := S.ok.slen
  refine wpAny_execs_cons (wpAny_Try_except (wpAny_execs_cons (ext_ok W hA J₄ R P.ok F.hr F.hf F.hp hn (sk := sk) (row := T.row) (l := l) (k := i) rfl rfl rfl rfl (by lia) (by lia) (fun e σ₅ J₅ kx₅ => ?_) (fun e e' σ₅ J₅ kx₅ => ?_) fun e e' r σ₅ x dx B s' t1 t2 t3 k₅ hss Fl => ?_)))
  ·rw [P.less] at e
   obtain ⟨eS, S'⟩ := step_in S (by lia) hLl e0 e
   exact wpAny_execs_nil (wpAny_execs_nil (wpAny_execs_nil (fits J₅ (fun o q => kx₅ _ o (.inr rfl) (kI₄ o q)) rfl rfl rfl (by refine rwG length_append (rwG length_singleton ?_); lia) eS S')))
  ·rw [P.less] at e
   rw [P.eq] at e'
   obtain ⟨eS, S'⟩ := step_out S (by lia) hLl e0 e (of_decide_eq_true e')
   rw [P.out] at J₅
   exact wpAny_execs_nil (wpAny_execs_nil (wpAny_execs_nil (fits J₅ (fun o q => kx₅ _ o (.inr rfl) (kI₄ o q)) rfl rfl rfl (by refine rwG length_append (rwG length_replicate ?_); lia) eS S')))
  ·rw [P.less] at e
   rw [P.eq] at e'
   refine xA (step_nag S e0 e (of_decide_eq_false e')) fun eS S' => ?_
   refine hand_ok W hA (J₄.keeps k₅) R hss Fl rfl rfl rfl (by lia) H hn fun σ₆ J₆ kx₆ => wpAny_execs_nil ?_
   refine J₆.nxK W C F.hb4 hn (w_rb4f (K := fun fl ρ => fl = .next /\ ρ = _) rfl ⟨rfl, rfl⟩) fun σ₇ X₇ J₇ kx₇ => ?_
   refine wpAny_execs_nil ⟨rfl, fun o q => kx₇ _ o (.inr rfl) (kx₆ _ o (.inr rfl) hMI (kh k₅ _ _ (kI₄ o q))), _, X₇, ⟨sk, by refine rwG eT ?_; exact S', ?_⟩, J₇⟩
   refine rwG eT (rwG eS (rwG P.words ?_))
   rfl
end
structure Left (outer : List Env) (s s' : Shared) : Prop where
 keep : ∀ b o, b ∉ outer.filterMap (·.frame) -> b ≠ 123 -> s.heap.get? b = some o -> s'.heap.get? b = some o
 slot : ∀ b o, b ∈ outer.filterMap (·.frame) -> s.heap.get? b = some o -> ∃ sl, s'.heap.get? b = some { o with slots := sl }
 sg : Sg s'
 os : s'.os = s.os
theorem w_r2 {K : Fl -> Ro -> Prop} (h : K .next (("row", .own (.list (rowD []))) :: ρ)) : exW (cx tb U2) c_r2 ρ K := by
 unfold c_r2; dsimp only [exW, evW, evsW]
 exact ⟨by refine rwG sizeLine_eq ?_; simp, rfl, h⟩
theorem w_r3 {K : Fl -> Ro -> Prop} (h : K .next (("nags", .own (.list [])) :: ρ)) : exW (cx tb U2) c_r3 ρ K := by
 unfold c_r3; dsimp only [exW, evW, evsW]
 exact ⟨by refine rwG sizeLine_eq ?_; simp, rfl, h⟩
theorem w_r4 {K : Fl -> Ro -> Prop} (h : K .next (("deep", .v (.int 0)) :: ρ)) : exW (cx tb U2) c_r4 ρ K := by
 unfold c_r4; dsimp only [exW, evW]
 exact h
theorem read_ok (W : Wd w hT) (hA : Room 8 A) {s : Shared} (O : Ok hT X s) (hPX : ¬ X 123) (G : Sg s) (rl : Rd w.params s.heap X (.list (strsD lines)) v) (hL : ∀ l ∈ lines, LineOk l) (hlen : lines.length <= 50)
  (hfr : A.frames = some outer) (hfun : s.heap.FunFrames {} outer) (hfx : ∀ b ∈ outer.filterMap (·.frame), X b)
  (h : ∀ u s', Left outer s s' -> TOk lines.length (toldT lines) -> Rd w.params s'.heap X (outT (toldT lines)) u -> Q u s') : wpAny (model prog w) A (call (.ref 183) [v]) Q E s := by
 have XK := W.base.inK
 refine enter_plain (κ := fun _ => 0) (X₀ := X) (es := [.v (.list (strsD lines))]) (f_read XK) W.base.nolimit hA (cells_read w.params) O (fun _ x => x) rfl rfl (fun i p e u hp he hu => ?_) (fun x y d d' q => (zip_v (ds := [.list (strsD lines)]) q).elim) (fun x d q => (zip_v (ds := [.list (strsD lines)]) q).elim) fun env A₁ s₁ X' hLn hA' hfr₁ hcells hf _ hnames k₁ S g₁ hsub hvals => ?_
 ·rcases i with _ | i
  ·obtain rfl := osi he; obtain rfl := osi hu; exact rl
  ·injection he
 have hfr' := hfr₁ _ hfr
 obtain ⟨sn, p1, v0, p2, s2, s3, s4, kn, p3, iter, b1, b2, t, rn, p4, ap, f, cp, p5, nx, np, gn, p6, ap2, n1, q1, a1, c1, n2, q2, a2, c2, n3, q3, a3, c3, tk, tp, cp2, p7, fs, p8, p9, p10, b4, p11, s6, hb, F, H⟩ := readM_inv (m_read w.params)
 generalize (fdOf (KK w.params) 183).scope.names = names at hnames F H
 refine rwG hb ?_
 have C := cx2 (prog := prog) W (hA'.less (by decide : 3 <= 7))
 let M : Addr -> Prop := fun b => b ∈ outer.filterMap (·.frame)
 have J₁ : Fr1 w hT env X X M s X' _ s₁ := ⟨S, fun b x _ => x, fun b m => hfx b m, hPX, fun b o _ _ e => kh k₁ b o e, fun b o _ e => ⟨o.slots, kh k₁ b o e⟩, g₁, G, G.keeps k₁, (kgens k₁).2⟩
 refine wpAny_execs_cons (wpAny_Assign_Name (noE ((evA C c_r1).1.use F.h1 hnames J₁.st w_r1 fun u σ₂ d k₂ S₂ hK hr hfr₂ => ?_)) (no_swap F.hc))
 subst hK
 revert hfr₂
 refine (hr.rd rfl).listE fun a vs m hx ho hrs hfr₂ => ?_
 have hfa := hfr₂ rfl _ rfl a rfl
 have rds : Rds w.params σ₂.heap (fun b => X' b \/ b = a) (sksD [⟨[], []⟩]) vs.toList := by
  generalize vs.toList = us at hrs
  refine hrs.consE fun _ _ r rs => ?_
  refine rs.nilE ?_
  exact .cons (ws_avoid (p := ⟨[], []⟩) ho r) .nil
 refine noE (store_o (N := fun _ => False) (fun _ q => q.elim) F.hs hnames J₁.st k₂ hfa (.list (.inr rfl) ho rds) fun σ₃ kb₃ S₃ => ?_)
 have J₃ := J₁.moved W S₃ kb₃ (grow1 hfa)
 refine J₃.nxK W C F.h2 hnames (w_r2 (K := fun fl ρ => fl = .next /\ ρ = _) ⟨rfl, rfl⟩) fun σ₄ X₄ J₄ _ => ?_
 refine J₄.nxK W C F.h3 hnames (w_r3 (K := fun fl ρ => fl = .next /\ ρ = _) ⟨rfl, rfl⟩) fun σ₅ X₅ J₅ _ => ?_
 refine J₅.nxK W C F.h4 hnames (w_r4 (K := fun fl ρ => fl = .next /\ ρ = _) ⟨rfl, rfl⟩) fun σ₆ X₆ J₆ _ => ?_
 refine wpAny_execs_cons (J₆.loop W C (N := lines.length) (keep := ["deep", "lines", "nags", "row", "stack"]) F.hk F.hi hnames (w_rit rfl (by lia)) (by lia) (fun b m => hfx b m) (rdInv lines) ⟨[⟨[], []⟩], sim0 lines, rfl⟩
  (fun I i ρ₇ X₇ σ₇ hi hv hI J₇ => read_body W hA' hL hlen hi hv hI J₇ ⟨fun b m => .inl (hfx b m), hcells, hf, hfr', fun b => Iff.rfl, hfun⟩ hnames F H) fun σ₇ ρ₇ X₇ hv J₇ => ?_)
 refine xEA hv fun sk Sm z1q => ?_; (try clear hv); obtain rfl := z1q
 have eT : tAt lines lines.length = toldT lines := rfl
 rw [eT] at Sm J₇
 have rlen := Sm.ok.rlen
 have slen := Sm.ok.slen
 have hpos := Sm.pos
 have hsl := Sm.len
 refine noE (wpAny_mono (blA C c_rd6 names [s6] env _ X X₇ σ₇ _ F.h6 hnames J₇.st (w_rd6 (K := fun d => d = _) (by lia) (by lia) (by lia) rfl)) (fun fl σ₈ q => ?_) (fun _ _ f => f))
 refine xEEEAAA (J₇.step W q) fun fl' ρ₈ X₈ hK J₈ hf₈ _ => ?_
 cases fl' with
 | next => exact absurd hK (by unfold retK; nofun)
 | brk => exact hK.elim
 | ret d =>
  have hK : d = _ := hK
  cases fl <;> first | exact hf₈.elim | skip
  have hf₈ : Rd w.params σ₈.heap X₈ d _ := hf₈
  subst hK
  refine h _ σ₈ ⟨fun b o hb h3 e => J₈.keep b o hb h3 e, fun b o hb e => J₈.slot b o (hfx b hb) e, J₈.sg, J₈.os⟩ Sm.ok ?_
  unfold outT
  rw [hsl] at hf₈
  exact Rd.less hf₈ J₈.st.sub
theorem ok_app (ha : PyData.strOk a = true) (hb : PyData.strOk b = true) : PyData.strOk (a ++ b) = true := by
 unfold PyData.strOk at *
 rw [<- Array.all_toList] at *
 rw [Str.cps_append, Array.toList_append, List.all_append, ha, hb]
 rfl
theorem ok_st (h : ∀ c ∈ l, c < 1114112) : PyData.strOk (st l) = true := okF_st h
theorem ok_join (hs : PyData.strOk sep = true) (ht : ∀ t ∈ ts, PyData.strOk t = true) : PyData.strOk (Txt.join sep ts) = true := by
 have e : Txt.join sep ts = Str.join sep ts := beq_iff_eq.mp (join_closes rfl)
 refine rwG e ?_
 unfold PyData.strOk
 rw [<- Array.all_toList, all_eq_true]
 intro c hc
 rcases join_mem sep ts c hc with ⟨t, hm, hct⟩ | q
 ·have := ht t hm
  unfold PyData.strOk at this
  rw [<- Array.all_toList, all_eq_true] at this
  exact this c hct
 ·unfold PyData.strOk at hs
  rw [<- Array.all_toList, all_eq_true] at hs
  exact hs c q
theorem ok_words {run : Nat} (h : run <= 6) : PyData.strOk (wordsS run hits) = true := by
 unfold wordsS
 refine ok_app (ok_app (by decide +kernel) ?_) (ok_join (by decide +kernel) fun t ht => ?_)
 ·split <;> decide +kernel
 ·unfold saidS at ht
  apply xEAq2R (mem_map.mp ht); intro i hi
  have := mem_range.mp (mem_filter.mp hi).1
  unfold digit
  exact ok_st fun c hc => by refine rwG (mem_singleton.mp hc) ?_; lia
theorem ok_nag {top base lead : List Nat} (h1 : Lead top) (h2 : Lead base) (h3 : Lead lead) : PyData.strOk (nagW top base lead) = true := by
 unfold nagW
 exact ok_app (ok_app (by decide +kernel) (ok_words (run_two h1 h3).1)) (ok_app (by decide +kernel) (ok_words (run_two h2 h3).1))
noncomputable def NagOk (d : D) : Prop := ∃ k wd l, d = nagD k wd l /\ PyData.strOk wd = true /\ PyData.strOk (st l) = true
structure TGood (T : TS) : Prop where
 row : ∀ t ∈ T.row, 0 < t /\ t < 256
 nags : ∀ d ∈ T.nags, NagOk d
theorem lead_nil : Lead [] := ⟨(fun c hc => nomatch hc), by decide⟩
theorem lead_getD {st : List (List Nat)} (h : ∀ l ∈ st, Lead l) (i : Nat) : Lead (st.getD i []) := by
 refine rwG (List.getD_eq_getElem?_getD) ?_
 cases q : st[i]? with
 | none => exact lead_nil
 | some l => exact h l (List.mem_of_getElem? q)
theorem line_ok (h : LineOk l) : PyData.strOk (st l) = true := by
 have H := h.at_
 refine ok_st fun c hc => ?_
 rw [H.eq] at hc
 rcases mem_append.mp hc with q | q
 ·rcases H.lead.b c q with e | e <;> lia
 ·have := (H.chars c q).1
  lia
theorem good_fin {stack : List (List Nat)} (g : TGood T) (hL : LineOk l) (hr : ∀ t ∈ row, 0 < t /\ t < 256) : TGood (finT T stack row (bodyAt l)) := by
 refine ⟨fun t ht => ?_, g.nags⟩
 have ht : t ∈ row ++ cutS (bodyAt l) ++ [if depthS (T.done ++ bodyAt l) = 0 then 4 else 63] := ht
 rw [(line_toks (done := []) hL).1] at ht
 rcases mem_append.mp ht with q | q
 ·rcases mem_append.mp q with q | q
  ·exact hr t q
  ·have := (numbers_at (l := bodyAt l) (fun c hc => (hL.at_.chars c hc).2.2.2)).1 t q
   lia
 ·refine rwG (mem_singleton.mp q) ?_
  split <;> decide
theorem good_step {n k : Nat} (g : TGood T) (ok : TOk n T) (hL : LineOk l) : TGood (stepT T k l) := by
 unfold stepT
 have app : ∀ {xs : List Int}, (∀ t ∈ xs, 0 < t /\ t < 256) -> ∀ t ∈ T.row ++ xs, 0 < t /\ t < 256 := fun h t ht => (mem_append.mp ht).elim (g.row t) (h t)
 split
 ·split
  ·exact good_fin g hL (app fun t ht => by refine rwG (mem_singleton.mp ht) ?_; decide)
  ·split
   ·exact good_fin g hL (app fun t ht => by refine rwG ((List.mem_replicate.mp ht).2) ?_; decide)
   ·refine ⟨g.row, fun d hd => ?_⟩
    rcases mem_append.mp hd with q | q
    ·exact g.nags d q
    ·exact ⟨_, _, _, mem_singleton.mp q, ok_nag (lead_getD ok.leads _) (lead_getD ok.leads _) hL.at_.lead, line_ok hL⟩
 ·exact good_fin g hL g.row
theorem good_told (hL : ∀ l ∈ lines, LineOk l) (hlen : lines.length <= 50) : ∀ i, i <= lines.length -> TGood (tAt lines i) /\ ∃ sk, Sim i sk (tAt lines i)
 | 0, _ => ⟨⟨(fun t ht => nomatch ht), fun d hd => nomatch hd⟩, _, sim0 lines⟩
 | i + 1, hi => by
  obtain ⟨g, sk, S⟩ := good_told hL hlen i (by lia)
  obtain ⟨l, hl⟩ : ∃ l, lines[i]? = some l := ⟨lines[i], List.getElem?_eq_getElem (by lia)⟩
  have hLl := hL l (List.mem_of_getElem? hl)
  have eT : tAt lines (i + 1) = stepT (tAt lines i) i l := by rw [tAt_succ, List.getD_eq_getElem?_getD, hl]; rfl
  refine rwG eT ?_
  refine ⟨good_step g S.ok hLl, ?_⟩
  by_cases e0 : depthS (tAt lines i).done = 0
  ·cases h : under (cols (topL (tAt lines i))) (cols (leadOf l)) with
   | true => exact ⟨_, (step_in S (by lia) hLl e0 h).2⟩
   | false =>
    by_cases h' : cols (baseL (tAt lines i) (leadOf l)) = cols (leadOf l)
    ·exact ⟨_, (step_out S (by lia) hLl e0 h h').2⟩
    ·exact ⟨_, (step_nag S e0 h h').2⟩
  ·exact ⟨_, (step_open S (by lia) hLl e0).2⟩
theorem nag_py (h : NagOk d) : ∃ p, d.py = some p /\ p.canLay0 = true /\ p.depth = 1 := by
 apply xEEEAAq1L h; intro k wd l h1 h2; (try clear h)
 have hf : [D.int ((k : Int) + 1), .str wd, .str (st l)].all okF = true := by
  simp only [all_cons, List.all_nil, Bool.and_true, Bool.and_eq_true]
  exact ⟨rfl, h1, h2⟩
 refine xAA (pys_flat hf) fun a b c => ?_
 refine ⟨.tuple ([D.int ((k : Int) + 1), .str wd, .str (st l)].map pyF), ?_, ?_, ?_⟩
 ·unfold nagD D.py
  refine rwG a ?_
  rfl
 ·unfold PyData.canLay0; exact b
 ·unfold PyData.depth; exact rwG c rfl
theorem nags_py : ∀ {ds : List D}, (∀ d ∈ ds, NagOk d) -> ∃ ps, D.pys ds = some ps /\ PyData.canLayAll0 ps = true /\ PyData.depthAll ps <= 1
 | [], _ => ⟨[], rfl, rfl, Nat.zero_le _⟩
 | d :: ds, h => by
  refine xEAA (nag_py (h d mem_cons_self)) fun p a1 a2 a3 => ?_
  refine xEAA (nags_py fun e he => h e (mem_cons_of_mem _ he)) fun ps b1 b2 b3 => ?_
  refine ⟨p :: ps, ?_, ?_, ?_⟩
  ·unfold D.pys; refine rwG a1 (rwG b1 ?_); rfl
  ·unfold PyData.canLayAll0; refine rwG a2 (rwG b2 ?_); rfl
  ·unfold PyData.depthAll; refine rwG a3 ?_; lia
theorem eqD_out (g : TGood T) : eqD (outT T) (outT T) = some true := by
 refine xEAA (nags_py g.nags) fun ps b1 b2 b3 => ?_
 refine xAA (pys_flat (ok_ints (T.row ++ List.replicate (T.stack.length - 1) 6 ++ [0]))) fun a1 a2 a3 => ?_
 generalize hq : PyData.tuple [.list (((T.row ++ List.replicate (T.stack.length - 1) 6 ++ [0]).map D.int).map pyF), .list ps] = q
 have e : (outT T).py = some q := by
  unfold outT D.py D.pys
  have e1 : D.py (.list ((T.row ++ List.replicate (T.stack.length - 1) 6 ++ [0]).map D.int)) = some (.list (((T.row ++ List.replicate (T.stack.length - 1) 6 ++ [0]).map D.int).map pyF)) := by unfold D.py; refine rwG a1 ?_; rfl
  have e2 : D.pys [.list T.nags] = some [.list ps] := by
   unfold D.pys D.py
   refine rwG b1 ?_
   rfl
  refine rwG e1 (rwG e2 (rwG (Eq.symm hq) ?_))
  rfl
 have lay : q.canLay0 = true := by
  refine rwG (Eq.symm hq) ?_
  have e3 : PyData.canLay0 (.tuple [.list (((T.row ++ List.replicate (T.stack.length - 1) 6 ++ [0]).map D.int).map pyF), .list ps]) = (PyData.canLayAll0 (((T.row ++ List.replicate (T.stack.length - 1) 6 ++ [0]).map D.int).map pyF) && (PyData.canLayAll0 ps && true)) := rfl
  refine rwG e3 (rwG a2 (rwG b2 ?_))
  rfl
 have dep : q.depth <= 64 := by
  refine rwG (Eq.symm hq) ?_
  have e1 : PyData.depth (.list (((T.row ++ List.replicate (T.stack.length - 1) 6 ++ [0]).map D.int).map pyF)) = 1 := by unfold PyData.depth; exact rwG a3 rfl
  have e2 : PyData.depth (.list ps) <= 2 := by unfold PyData.depth; lia
  have e3 : PyData.depth (.tuple [.list (((T.row ++ List.replicate (T.stack.length - 1) 6 ++ [0]).map D.int).map pyF), .list ps]) = max (PyData.depth (.list (((T.row ++ List.replicate (T.stack.length - 1) 6 ++ [0]).map D.int).map pyF))) (max (PyData.depth (.list ps)) 0) + 1 := by rfl
  refine rwG e3 (rwG e1 ?_)
  lia
 have sh : SeqAt.shaped q = true := by
  unfold SeqAt.shaped
  refine rwG lay (rwG (decide_eq_true dep) ?_)
  rfl
 exact rwG (eqD_some e e sh sh) (rwG (PySem.SeqAt.eqv_refl q lay) rfl)
noncomputable def c_l1 : CS := .assign "lines" (.call (.glob "_law_page") (.cons (.bin .Add (.slice (.var "script") .no (.yes (.lit (.int 7))) .no) (.list (.cons (.lit (.int 1627)) (.cons (.lit (.int 8906)) (.cons (.lit (.int 65687)) .nil))))) .nil))
noncomputable def c_lr : CE := .call (.glob "_law_read") (.cons (.var "lines") .nil)
noncomputable def c_l3 : CS := .ifS (.cmp .NotEq (.var "said") (.call (.glob "_law_told") (.cons (.var "lines") .nil))) (.cons (.ret (.lit (.bool false))) .nil) .nil
noncomputable def c_l4 : CS := .assignO "kinds" (.list .nil)
noncomputable def c_l5b : CB := .cons (.mutS "kinds" "extend" (.cons (.list (.cons (.call (.glob "ISTERMINAL") (.cons (.var "t") .nil)) (.cons (.call (.glob "ISNONTERMINAL") (.cons (.bin .Add (.var "t") (.lit (.int 256))) .nil)) (.cons (.call (.glob "ISTERMINAL") (.cons (.bin .Add (.var "t") (.lit (.int 256))) .nil)) (.cons (.call (.glob "ISNONTERMINAL") (.cons (.var "t") .nil)) .nil))))) .nil)) .nil
noncomputable def c_l5 : CS := .forS "t" (.over (.item (.var "said") (.lit (.int 0)))) ["kinds", "said"] c_l5b
noncomputable def c_l6 : CS := .assign "ends" (.comp (.call (.glob "ISEOF") (.cons (.var "t") .nil)) "t" (.over (.item (.var "said") (.lit (.int 0)))) .nil [])
noncomputable def c_l7 : CS := .ifS (.cmp .NotEq (.comp (.var "one") "one" (.over (.bin .Add (.var "kinds") (.var "ends"))) (.cons (.bop .And (.cons (.cmp .IsNot (.var "one") (.lit (.bool true))) (.cons (.cmp .IsNot (.var "one") (.lit (.bool false))) .nil))) .nil) []) (.list .nil)) (.cons (.ret (.lit (.bool false))) .nil) .nil
noncomputable def c_l8 : CS := .ret (.bop .And (.cons (.cmp .Eq (.var "kinds") (.bin .Mult (.list (.cons (.lit (.bool true)) (.cons (.lit (.bool true)) (.cons (.lit (.bool false)) (.cons (.lit (.bool false)) .nil))))) (.call (.glob "len") (.cons (.var "ends") .nil))))
 (.cons (.cmp .Eq (.var "ends") (.bin .Add (.bin .Mult (.list (.cons (.lit (.bool false)) .nil)) (.bin .Sub (.call (.glob "len") (.cons (.var "ends") .nil)) (.lit (.int 1)))) (.list (.cons (.lit (.bool true)) .nil)))) .nil)))
noncomputable def c_lb : CB := .cons c_l3 (.cons c_l4 (.cons c_l5 (.freeze "kinds" (.cons c_l6 (.cons c_l7 (.cons c_l8 .nil))))))
noncomputable def lawM (names : List (Str × NameKind)) (b : List Stmt) : Bool := wCons b fun s1 r => wCons r fun s2 rest => wAsg s2 fun ts v _ => w1 ts fun t => wName t fun sn _ => mS names c_l1 s1 && isStore names "said" sn && mE names c_lr v && !isComp v && mB names c_lb rest
theorem lawM_inv (h : lawM names b = true) : ∃ s1 sn p v q rest, b = s1 :: .Assign [.Name sn p] v q :: rest /\ mS names c_l1 s1 = true /\ isStore names "said" sn = true /\ mE names c_lr v = true /\ isComp v = false /\ mB names c_lb rest = true := by
 refine wCons_E h fun s1 r k1_ => ?_
 refine wCons_E k1_ fun s2 rest k2_ => ?_
 refine wAsg_E k2_ fun ts v q k3_ => ?_
 refine w1_E k3_ fun t k4_ => ?_
 refine wName_E k4_ fun sn p k5_ => ?_
 refine an5 k5_ fun h1 h2 h3 h4 h5 => ?_
 exact ⟨_, _, _, _, _, _, rfl, h1, h2, h3, not_t h4, h5⟩
theorem f_law (X : (KK P).In hT) : FnAt hT 220 (fdOf (KK P) 220) (bodyOf (fdOf (KK P) 220)) ["script"] := fnAt_of X (by kernel_rfl) fun vs h => by
 apply xEq1L (len1 h); intro a
 kernel_rfl
theorem m_law (P : Params) : lawM (fdOf (KK P) 220).scope.names (bodyOf (fdOf (KK P) 220)) = true := by kernel_rfl
theorem cells_law (P : Params) : ((fdOf (KK P) 220).scope.names.all fun y => y.2 != .cell) = true := by kernel_rfl
noncomputable def kd4 : List D := [.bool true, .bool true, .bool false, .bool false]
noncomputable def kdN (n : Nat) : List D := (List.replicate n kd4).flatten
theorem kdN_succ (n : Nat) : kdN n ++ kd4 = kdN (n + 1) := by
 unfold kdN
 refine rwG List.replicate_succ' (rwG List.flatten_append ?_)
 simp
theorem kdN_len (n : Nat) : (kdN n).length = 4 * n := by
 unfold kdN kd4
 simp [Nat.mul_comm]
theorem kdN_bool (n : Nat) : ∃ bs : List Bool, kdN n = bs.map .bool := by
 induction n with
 | zero => exact ⟨[], rfl⟩
 | succ n ih =>
  refine xE ih fun bs e => ?_; (try clear ih)
  refine ⟨bs ++ [true, true, false, false], ?_⟩
  rw [<- kdN_succ, e, map_append]
  rfl
theorem ok_bools (bs : List Bool) : (bs.map D.bool).all okF = true := by simp [okF]
theorem eqD_same (h : xs.all okF = true) : eqD (.list xs) (.list xs) = some true := by
 refine rwG (eqD_flat h h) ?_
 have := (pys_flat h).2.1
 exact rwG (PySem.SeqAt.eqvAll_refl _ this) rfl
theorem body_l5 {K : Fl -> Ro -> Prop} (h0 : 0 <= t /\ t < 256) (hn : n <= 10000) (h : ∀ ρ, keepR ["kinds", "said"] ρ = [("kinds", .own (.list (kdN (n + 1)))), ("said", .v said)] -> K .next ρ) :
  exsW (cx tb U2) c_l5b (("t", .v (.int t)) :: [("kinds", .own (.list (kdN n))), ("said", .v said)]) K := by
 unfold c_l5b
 ktr_room
 refine ⟨t, rfl, t + 256, rfl, t + 256, rfl, t, rfl, by refine rwG sizeLine_eq ?_; simp, ?_⟩
 have e : [D.bool (decide (t < 256)), .bool (decide (t + 256 >= 256)), .bool (decide (t + 256 < 256)), .bool (decide (t >= 256))] = kd4 := by
  refine rwG (decide_eq_true (by lia)) (rwG (decide_eq_true (by lia)) (rwG (decide_eq_false (by lia)) (rwG (decide_eq_false (by lia)) ?_)))
  rfl
 refine rwG e ?_
 refine ask_of (q_ext (by rw [kdN_len, sizeLine_eq]; show 4 * n + 4 <= _; lia)) ?_
 rw [kdN_succ]
 exact h _ rfl
theorem loop_l5 {said : D} {K : Fl -> Ro -> Prop} : ∀ (ts : List Int) (n : Nat), (∀ t ∈ ts, 0 <= t /\ t < 256) -> n + ts.length <= 10000 -> K .next [("kinds", .own (.list (kdN (n + ts.length)))), ("said", .v said)] ->
  forL (fun d ρ' => exsW (cx tb U2) c_l5b (("t", .v d) :: ρ')) ["kinds", "said"] (ts.map .int) [("kinds", .own (.list (kdN n))), ("said", .v said)] K
 | [], n, _, _, h => h
 | t :: ts, n, ht, hn, h => by
  refine rwG map_cons ?_
  unfold forL
  rw [length_cons] at hn h
  refine body_l5 (ht t mem_cons_self) (by lia) fun ρ hρ => ?_
  show forL _ _ _ (keepR _ ρ) K
  refine rwG hρ ?_
  refine loop_l5 (said := said) (K := K) ts (n + 1) (fun s hs => ht s (mem_cons_of_mem _ hs)) (by lia) ?_
  refine rwG (show n + 1 + ts.length = n + (ts.length + 1) by lia) ?_
  exact h
theorem q_neOut (g : TGood T) : cmpD .NotEq (outT T) (outT T) = some false := by
 have : cmpD .NotEq (outT T) (outT T) = (eqD (outT T) (outT T)).map (!·) := rfl
 refine rwG this (rwG (eqD_out g) ?_)
 rfl
theorem w_l3 {K : Fl -> Ro -> Prop} (hL : ∀ l ∈ lines, LineOk l) (hlen : lines.length <= 50) (h1 : ρ.lookup "said" = some (.v (outT (toldT lines)))) (h2 : ρ.lookup "lines" = some (.v (.list (strsD lines)))) (h : K .next ρ) : exW (cx tb U2) c_l3 ρ K := by
 have g : TGood (toldT lines) := (good_told hL hlen lines.length (Nat.le_refl _)).1
 unfold c_l3
 (ktr_room; repeat (simp only [h1, h2]; ktr_room))
 refine ⟨lines, rfl, hL, hlen, fun _ => ?_⟩
 dsimp only
 refine ask_of (q_neOut g) ?_
 exact ⟨(fun q => nomatch q), fun _ => h⟩
theorem w_l4 {K : Fl -> Ro -> Prop} (h : K .next (("kinds", .own (.list (kdN 0))) :: ρ)) : exW (cx tb U2) c_l4 ρ K := by
 unfold c_l4; dsimp only [exW, evW, evsW]
 exact ⟨by refine rwG sizeLine_eq ?_; simp, rfl, h⟩
theorem item_out : itemD (outT T) (.int 0) = some (.list ((T.row ++ List.replicate (T.stack.length - 1) 6 ++ [0]).map .int)) := item_tup0
theorem w_l5i {K : D -> Prop} (h1 : ρ.lookup "said" = some (.v (outT T))) (h : K (.list ((T.row ++ List.replicate (T.stack.length - 1) 6 ++ [0]).map .int))) : evW (cx tb U2) ρ (.item (.var "said") (.lit (.int 0))) K := by
 dsimp only [evW, litD]
 simp only [h1, x_item]
 refine ask_of item_out ?_
 exact h
theorem w_l5 {ts : List Int} {K : Fl -> Ro -> Prop} (he : ts = T.row ++ List.replicate (T.stack.length - 1) 6 ++ [0]) (ht : ∀ t ∈ ts, 0 <= t /\ t < 256) (hl : ts.length <= 10000) (hρ : keepR ["kinds", "said"] ρ = [("kinds", .own (.list (kdN 0))), ("said", .v (outT T))]) (h1 : ρ.lookup "said" = some (.v (outT T)))
  (h : K .next [("kinds", .own (.list (kdN ts.length))), ("said", .v (outT T))]) : exW (cx tb U2) c_l5 ρ K := by
 unfold c_l5; dsimp only [exW, itW]
 refine w_l5i h1 ?_
 refine rwG (Eq.symm he) ?_
 show forL _ _ (ts.map .int) _ _
 refine rwG hρ ?_
 refine loop_l5 ts 0 ht (by lia) ?_
 rw [Nat.zero_add]
 exact h
noncomputable def endsB (ts : List Int) : List Bool := ts.map fun t => t == 0
theorem w_l6 {K : Fl -> Ro -> Prop} (he : ts = T.row ++ List.replicate (T.stack.length - 1) 6 ++ [0]) (hl : ts.length <= 10000) (h1 : ρ.lookup "said" = some (.v (outT T)))
  (h : K .next (("ends", .v (.list ((endsB ts).map .bool))) :: ρ)) : exW (cx tb U2) c_l6 ρ K := by
 unfold c_l6; dsimp only [exW, evW, itW]
 refine w_l5i h1 ?_
 refine rwG (Eq.symm he) ?_
 show (ts.map D.int).length <= sizeLine /\ _
 refine ⟨by rw [length_map, sizeLine_eq]; lia, ?_⟩
 refine compL_m (p := fun _ => true) (g := fun t => .bool (t == 0)) ts [] (fun t _ k hk => ?_) (fun t _ _ k hk => ?_) ?_
 ·dsimp only [testsW]
  exact hk
 ·ktr_room
  exact ⟨t, rfl, hk⟩
 ·rw [nil_append, filter_eq_self.mpr fun _ _ => rfl]
  unfold endsB at h
  rw [map_map] at h
  exact h
theorem w_l7 {ks es : List Bool} {K : Fl -> Ro -> Prop} (h1 : ρ.lookup "kinds" = some (.v (.list (ks.map .bool)))) (h2 : ρ.lookup "ends" = some (.v (.list (es.map .bool)))) (hl : ks.length + es.length <= 100000) (h : K .next ρ) : exW (cx tb U2) c_l7 ρ K := by
 unfold c_l7
 dsimp only [exW]
 dsimp only [evW, itW]
 simp only [h1, h2, x_bin]
 refine ask_of (q_addL (by rw [length_map, length_map, sizeLine_eq]; lia)) ?_
 refine rwG (Eq.symm map_append) ?_
 show ((ks ++ es).map D.bool).length <= sizeLine /\ _
 refine ⟨by rw [length_map, length_append, sizeLine_eq]; lia, ?_⟩
 refine compL_m (p := fun _ => false) (g := fun b => .bool b) (ks ++ es) [] (fun b _ k hk => ?_) (fun b _ q => nomatch q) ?_
 ·ktr_room
  cases b
  ·exact ⟨(fun _ => ⟨(fun q => nomatch q), fun _ => hk⟩), fun q => nomatch q⟩
  ·exact ⟨(fun q => nomatch q), fun _ => ⟨(fun q => nomatch q), fun _ => hk⟩⟩
 ·rw [nil_append, List.filter_eq_nil_iff.mpr (by simp), map_nil]
  ktr_room
  have e : cmpD .NotEq (.list []) (.list []) = some false := by
   have : cmpD .NotEq (.list []) (.list []) = (eqD (.list []) (.list [])).map (!·) := rfl
   rw [this, eqD_same rfl]
   rfl
  refine ⟨by rw [sizeLine_eq]; simp, ?_⟩
  refine ask_of e ?_
  exact ⟨(fun q => nomatch q), fun _ => h⟩
theorem ends_at (r : List Int) (he : ts = r ++ [0]) (ht : ∀ t ∈ r, 0 < t) : (endsB ts).map D.bool = (List.replicate (ts.length - 1) [D.bool false]).flatten ++ [D.bool true] := by
 subst he
 unfold endsB
 rw [map_append, map_append, length_append, length_singleton, Nat.add_sub_cancel]
 congr 1
 induction r with
 | nil => rfl
 | cons t r ih =>
  rw [map_cons, map_cons, length_cons, replicate_succ, flatten_cons, ih fun s hs => ht s (mem_cons_of_mem _ hs)]
  have : (t == 0) = false := by
   have := ht t mem_cons_self
   simp
   lia
  rw [this]
  rfl
theorem w_l8 {K : Fl -> Ro -> Prop} (he : ts = r ++ [0]) (ht : ∀ t ∈ r, 0 < t) (hl : ts.length <= 10000) (h1 : ρ.lookup "kinds" = some (.v (.list (kdN ts.length)))) (h2 : ρ.lookup "ends" = some (.v (.list ((endsB ts).map .bool)))) (h : K (.ret (.bool true)) ρ) : exW (cx tb U2) c_l8 ρ K := by
 have hlen : ((endsB ts).map D.bool).length = ts.length := by unfold endsB; rw [length_map, length_map]
 have hpos : 1 <= ts.length := by refine rwG he (rwG length_append (rwG length_singleton ?_)); lia
 unfold c_l8
 (ktr_room; repeat (simp only [h1, h2]; ktr_room))
 refine ⟨by refine rwG sizeLine_eq ?_; simp, ?_⟩
 rw [q_lenL (by refine rwG hlen (rwG sizeLine_eq ?_); lia), ask_some, hlen]
 rw [q_mulL (by simp only [Int.toNat_natCast]; show 4 * ts.length <= _; lia) (of_small (by lia)), ask_some, Int.toNat_natCast]
 show ask (cmpD .Eq (.list (kdN ts.length)) (.list (kdN ts.length))) _
 refine xE (kdN_bool ts.length) fun bs eb => ?_
 rw [q_eqL, eqD_same (by refine rwG eb ?_; exact ok_bools bs), ask_some]
 ktr_room
 refine ⟨fun _ => ?_, fun q => nomatch q⟩
 refine rwG (show (ts.length : Int) - 1 = ((ts.length - 1 : Nat) : Int) by lia) ?_
 refine ⟨by refine rwG sizeLine_eq ?_; simp, ?_⟩
 refine ask_of (q_mulL (by simp only [length_singleton, Int.toNat_natCast]; lia) (of_small (by lia))) ?_
 rw [Int.toNat_natCast]
 refine ⟨by refine rwG sizeLine_eq ?_; simp, ?_⟩
 refine ask_of (q_addL (by rw [sizeLine_eq]; simp; lia)) ?_
 refine rwG (Eq.symm (ends_at r he ht)) (rwG q_eqL ?_)
 refine ask_of (eqD_same (ok_bools _)) ?_
 exact h
theorem w_l1 {xs : List Int} {K : Fl -> Ro -> Prop} (h1 : ρ.lookup "script" = some (.v (.list (xs.map .int)))) (hl : xs.length <= 900) (h : ∀ lines, lines.length <= 10 -> (∀ l ∈ lines, LineOk l) -> K .next (("lines", .v (.list (strsD lines))) :: ρ)) : exW (cx tb U2) c_l1 ρ K := by
 unfold c_l1
 (ktr_room; repeat (simp only [h1]; ktr_room))
 have e : sliceD (.list (xs.map .int)) none (some (.int 7)) none = some (.list ((xs.take 7).map .int)) := by
  rw [q_sliceL (lo := none) (hi := some 7) rfl rfl (by rw [length_map, sizeLine_eq]; lia)]
  simp only [Option.elim_some, Option.elim_none]
  rw [show (7 : Int) = ((7 : Nat) : Int) from rfl, clipAt_nat, List.drop_zero, Nat.sub_zero, length_map, List.map_take]
  congr 2
  by_cases q : 7 <= xs.length
  ·rw [Nat.min_eq_left q]
  ·rw [Nat.min_eq_right (by lia), take_of_length_le (by rw [length_map]; lia), take_of_length_le (by rw [length_map]; lia)]
 refine ask_of e ?_
 refine ⟨by refine rwG sizeLine_eq ?_; simp, ?_⟩
 refine ask_of (q_addL (by rw [length_map, length_take, sizeLine_eq]; simp; lia)) ?_
 refine ⟨xs.take 7 ++ [1627, 8906, 65687], by refine rwG map_append ?_; rfl, by refine rwG length_append (rwG length_take ?_); simp; lia, fun lines hll hL => h lines ?_ hL⟩
 refine rwG hll (rwG length_append (rwG length_take ?_))
 simp
 lia
theorem w_lb (hL : ∀ l ∈ lines, LineOk l) (hlen : lines.length <= 50) (ok : TOk lines.length (toldT lines)) :
  exsW (cx tb U2) c_lb [("said", .v (outT (toldT lines))), ("lines", .v (.list (strsD lines))), ("script", s0)] (fun fl _ => retK (fun d => d = .bool true) fl) := by
 have g : TGood (toldT lines) := (good_told hL hlen lines.length (Nat.le_refl _)).1
 generalize hT' : toldT lines = T at *
 obtain ⟨r, hr⟩ : ∃ r, r = T.row ++ List.replicate (T.stack.length - 1) 6 := ⟨_, rfl⟩
 have ht : ∀ t ∈ r, 0 < t /\ t < 256 := fun t h => by
  rw [hr] at h
  rcases mem_append.mp h with q | q
  ·exact g.row t q
  ·refine rwG ((List.mem_replicate.mp q).2) ?_; decide
 have hts : ∀ t ∈ r ++ [0], 0 <= t /\ t < 256 := fun t h => by
  rcases mem_append.mp h with q | q
  ·have := ht t q
   lia
  ·refine rwG (mem_singleton.mp q) ?_; decide
 have hlr : (r ++ [0]).length <= 10000 := by
  refine rwG length_append (rwG hr (rwG length_append (rwG length_replicate (rwG length_singleton ?_))))
  have := ok.rlen
  have := ok.slen
  lia
 have he : r ++ [0] = T.row ++ List.replicate (T.stack.length - 1) 6 ++ [0] := by exact rwG hr rfl
 unfold c_lb
 refine w_l3 hL hlen (by refine rwG hT' ?_; rfl) rfl ?_
 refine w_l4 ?_
 refine w_l5 (T := T) he hts hlr rfl rfl ?_
 show exsW (cx tb U2) (.cons c_l6 (.cons c_l7 (.cons c_l8 .nil))) (("kinds", .v (.list (kdN (r ++ [0]).length))) :: [("kinds", .own (.list (kdN (r ++ [0]).length))), ("said", .v (outT T))]) _
 refine w_l6 (T := T) he hlr rfl ?_
 refine xE (kdN_bool (r ++ [0]).length) fun bs eb => ?_
 have hbl : bs.length = 4 * (r ++ [0]).length := by rw [<- kdN_len, eb, length_map]
 refine w_l7 (ks := bs) (es := endsB (r ++ [0])) (by refine rwG (Eq.symm eb) ?_; rfl) rfl (by unfold endsB; rw [hbl, length_map]; lia) ?_
 exact w_l8 rfl (fun t h => (ht t h).1) hlr rfl rfl rfl
theorem St.slots (S : St P hT env X₀ X ρ h) (hc : ∀ n, env.cells.lookup n = none) (h3 : ¬ X 123) (hT3 : hT.get? 123 = none) (h3f : ∃ o vs, h.get? 123 = some o /\ o.data = .fields vs)
  (k : ∀ b o, b ≠ 123 -> b ≠ env.locals -> h.get? b = some o -> h'.get? b = some o) (kl : ∀ o, h.get? env.locals = some o -> ∃ sl, h'.get? env.locals = some { o with slots := sl }) : St P hT env X₀ X ρ h' := by
 refine xEEAAA S.vars fun m κ hn hv hi ho => ?_
 have offT : ∀ {b : Addr} {o : Obj}, hT.get? b = some o -> ¬ X b := fun e x => by exact clash (S.off _ x) e
 have kX : ∀ b o, ¬ X b -> b ≠ 123 -> h.get? b = some o -> h'.get? b = some o := fun b o x h1 e => k b o h1 (fun q => x (q ▸ S.loc)) e
 have kC : ∀ a o, ¬ X a -> (∀ vs, o.data ≠ .fields vs) -> h.get? a = some o -> h'.get? a = some o := fun a o x hn e => kX a o x (fun q => by
  refine xEEA h3f fun o' ps hp hd => ?_; (try clear h3f)
  rw [q, hp] at e
  obtain rfl := osi e
  exact hn ps hd) e
 have kO : ∀ y d1, ρ.lookup y = some (.own d1) -> ∀ ob, h.get? (κ y) = some ob -> h'.get? (κ y) = some ob := fun y d1 hy ob e => by
  refine xAA (ho y d1 hy) fun p1 p2 p3 => ?_
  refine xEA (hv y _ hy) fun u _ hro => ?_
  have : X (κ y) := OwnRd.root hro
  exact k _ ob (fun q => h3 (q ▸ this)) p2 e
 have vat : ∀ y u', VarAt env m h y u' -> VarAt env m h' y u' := fun y u' hva => by
  rcases hva with a | ⟨a, cc, b, _⟩
  ·exact .inl a
  ·rw [hc] at b; injection b
 refine ⟨fun a o e => kX a o (offT e) (fun q => by rw [q] at e; exact clash hT3 e) (S.base a o e), S.off, fun a z => ?_, S.sub, S.fn, S.glob, S.blt, S.loc, S.loc0, S.cell0, S.celled, (fun n q e => by rw [hc] at e; injection e), S.apart, m, κ, ?_, fun y e q => ?_, hi, ho⟩
 ·refine xE (S.live a z) fun o e => ?_
  by_cases z1 : a = env.locals
  ·subst z1
   refine xE (kl o e) fun sl q => ?_
   exact ⟨_, q⟩
  ·exact ⟨o, k a o (fun q => h3 (q ▸ z)) z1 e⟩
 ·refine xEEEAAA hn fun o es ep e hd hk hm => ?_; (try clear hn)
  refine xE (kl o e) fun sl q => ?_
  exact ⟨_, es, ep, q, hd, hk, hm⟩
 ·refine xEA (hv y e q) fun u' hva' hr'' => ?_
  refine ⟨u', vat _ _ hva', ?_⟩
  cases e with
  | v d1 => exact Rd.moveC kC (fun _ _ _ z => z) hr''
  | own d1 => exact OwnRd.moveC hr'' (fun ob _ e => kO y d1 q ob e) (OwnRd.root hr'') kC (fun _ _ _ z => z)
theorem Fr1.left (W : Wd w hT) (J : Fr1 w hT env X X₀ M s X' ρ σ) (hM : ∀ b, ¬ M b) (hc : ∀ n, env.cells.lookup n = none) (hf : env.frame = some env.locals) (L : Left [env] σ σ') : Fr1 w hT env X X₀ M s X' ρ σ' := by
 have frm : ∀ b, b ∈ [env].filterMap (·.frame) ↔ b = env.locals := fun b => by refine rwG filterMap_cons (rwG hf ?_); exact mem_singleton
 have h3 := J.nX'
 have ln : s.heap.get? env.locals = none := by
  rcases J.grow _ J.st.loc with q | q
  ·exact absurd (J.cov _ q (hM _)) J.st.loc0
  ·exact q
 have k : ∀ b o, b ≠ 123 -> b ≠ env.locals -> σ.heap.get? b = some o -> σ'.heap.get? b = some o := fun b o h1 h2 e => L.keep b o (fun q => h2 ((frm b).mp q)) h1 e
 refine ⟨J.st.slots hc h3 W.tabT (tab_live J.sg.tab) k (fun o e => L.slot _ o ((frm _).mpr rfl) e), J.cov, J.mx, J.nX, fun b o h1 h2 e => k b o h2 (fun q => by rw [q] at e; exact clash ln e) (J.keep b o h1 h2 e), fun b o x e => ?_, J.grow, J.g0, L.sg, L.os.trans J.os⟩
 refine xE (J.slot b o x e) fun sl q => ?_
 exact ⟨sl, k _ _ (fun q => h3 (q ▸ J.st.sub b x)) (fun q => J.st.loc0 (q ▸ x)) q⟩
theorem law_ok (W : Wd w hT) (hA : Room 9 A) {xs : List Int} (O : Ok hT X s) (hPX : ¬ X 123) (G : Sg s) (rl : Rd w.params s.heap X (.list (xs.map .int)) v) (hl : xs.length <= 900)
  (hfr : A.frames = some []) (h : ∀ s', (∀ b o, b ≠ 123 -> s.heap.get? b = some o -> s'.heap.get? b = some o) -> Sg s' -> s'.os = s.os -> Q (.bool true) s') : wpAny (model prog w) A (call (.ref 220) [v]) Q E s := by
 have XK := W.base.inK
 refine enter_plain (κ := fun _ => 0) (X₀ := X) (es := [.v (.list (xs.map .int))]) (f_law XK) W.base.nolimit hA (cells_law w.params) O (fun _ x => x) rfl rfl (fun i p e u hp he hu => ?_) (fun x y d d' q => (zip_v (ds := [.list (xs.map .int)]) q).elim) (fun x d q => (zip_v (ds := [.list (xs.map .int)]) q).elim) fun env A₁ s₁ X' hLn hA' hfr₁ hcells hf _ hnames k₁ S g₁ hsub hvals => ?_
 ·rcases i with _ | i
  ·obtain rfl := osi he; obtain rfl := osi hu; exact rl
  ·injection he
 have hfr' := hfr₁ _ hfr
 obtain ⟨s1, sn, p, va, q, rest, hb, F1, Fs, Fv, Fc, Fb⟩ := lawM_inv (m_law w.params)
 generalize (fdOf (KK w.params) 220).scope.names = names at hnames F1 Fs Fv Fb
 refine rwG hb ?_
 have C := cx2 (prog := prog) W (hA'.less (by decide : 3 <= 8))
 let M : Addr -> Prop := fun _ => False
 have J₁ : Fr1 w hT env X X M s X' _ s₁ := ⟨S, fun b x _ => x, fun b m => m.elim, hPX, fun b o _ _ e => kh k₁ b o e, fun b o _ e => ⟨o.slots, kh k₁ b o e⟩, g₁, G, G.keeps k₁, (kgens k₁).2⟩
 refine wpAny_execs_cons (J₁.ex W C F1 hnames (w_l1 (xs := xs) (K := fun fl ρ => fl = .next /\ ∃ lines, lines.length <= 10 /\ (∀ l ∈ lines, LineOk l) /\ ρ = [("lines", .v (.list (strsD lines))), ("script", .v (.list (xs.map .int)))]) rfl hl (fun lines h1 h2 => ⟨rfl, lines, h1, h2, rfl⟩)) fun fl σ₂ fl' ρ₂ X₂ hK J₂ hf₂ _ => ?_)
 refine xAEAA hK fun z1q lines hll hL z2q => ?_; (try clear hK); obtain rfl := z1q; obtain rfl := z2q
 cases fl <;> first | exact hf₂.elim | skip
 refine wpAny_execs_cons (wpAny_Assign_Name (call_raw C (v := .ref 183) (Kd := fun ds => ds = [.list (strsD lines)]) Fv hnames J₂.st (nr rfl) (fun h hb => keeps_K (k_read _) h (W.base.inK.keeps hb)) ?_ fun vs σ₃ ds k₃ S₃ hK hr => ?_) (no_swap Fc))
 ·dsimp only [evsW, evW]
  rfl
 subst hK
 refine hr.consE fun _ _ r rs => ?_
 refine rs.nilE ?_
 have J₃ := J₂.keeps k₃
 have hfun₃ : σ₃.heap.FunFrames {} [env] := by
  refine xEEA J₃.st.vars fun m _ hn' _ => ?_
  exact Heap.FunFrames.cons (by refine rwG J₃.st.fn ?_; decide) hf hn' rfl trivial
 refine read_ok W hA' J₃.st.ok J₃.nX' J₃.sg r hL (by lia) hfr' hfun₃ (fun b hb => ?_) fun u σ₄ Lf tok ru => ?_
 ·rw [filterMap_cons, hf] at hb
  refine rwG (mem_singleton.mp hb) ?_
  exact J₃.st.loc
 have J₄ := J₃.left W (fun _ m => m) hcells hf Lf
 refine noE (store_v (N := fun _ => False) (fun _ q => q.elim) Fs hnames J₄.st (kr _) ru fun σ₅ kb₅ S₅ => ?_)
 have J₅ := J₄.moved W S₅ kb₅ Grow.rfl
 refine noE (wpAny_mono (blA C c_lb names rest env _ X _ σ₅ _ Fb hnames J₅.st (w_lb hL (by lia) tok)) (fun fl σ₆ q => ?_) (fun _ _ f => f))
 refine xEEEAAA (J₅.step W q) fun fl' ρ₆ X₆ hK J₆ hf₆ _ => ?_
 cases fl' with
 | next => exact absurd hK (by unfold retK; nofun)
 | brk => exact hK.elim
 | ret d =>
  have hK : d = _ := hK
  cases fl <;> first | exact hf₆.elim | skip
  have hf₆ : Rd w.params σ₆.heap X₆ d _ := hf₆
  subst hK
  cases hf₆
  exact h σ₆ (fun b o h3 e => J₆.keep b o (fun m => m) h3 e) J₆.sg J₆.os
end
section
variable {w : World}
theorem well_ints (I : IntsAre vs xs) : Rds P h X (xs.map .int) vs := by
 induction I with
 | nil => exact .nil
 | cons n t _ ih => exact .cons (.int n t) ih
theorem k_law (P : Params) : nsIn (KK P) mainGlobals (ofString "law") = some (some (.ref 220)) := by kernel_rfl
theorem t_fw (P : Params) : tabIn (KK P) (ofString "format_witnesses") = some (127, 123) := by kernel_rfl
theorem no_tabs (P : Params) : noTabs (KK P) = true := by kernel_rfl
noncomputable abbrev tabs1 : List (Addr × Addr) := [(127, 123)]
theorem law_top (T : Top p loose mean mg mb s₁.heap) (KX : (KK w.params).In s₁.heap) (hr : (recsOf p).find? (fun e => e.name == ofString "format_witnesses") = some d)
  (hg : s₁.gens = #[]) (hfa : mg (ofString "law") = some (.ref fa)) (ho : s₁.heap.get? a = some { cls := .type "list", data := .seq vs.toArray }) (I : IntsAre vs xs) (hl : xs.length <= 900)
  (h : ∀ s', OldK s₁.heap s'.heap -> s'.os = s₁.os -> AllBare s'.gens -> Q (.bool true) s') : wpAny (model prog w) callerA (call (.ref fa) [.ref a]) Q E s₁ := by
 have e := mg_of KX T.g (k_law w.params)
 rw [hfa] at e
 cases e
 have tb0 := tab_of T KX hr (t_fw w.params)
 have hT : TabsAt tabs1 s₁.heap := fun q hq => by
  refine rwG (mem_singleton.mp hq) ?_
  exact tb0
 have T' := ghost_top hT T
 have KX' := ghost_K hT KX (no_tabs w.params)
 have n3 : (ghostOf s₁.heap tabs1).get? 123 = none := hideAll_none _ (by simp)
 have W : Wd w (ghostOf s₁.heap tabs1) := ⟨base_tb KX' T'.nolimit ⟨mb, T'.b, T'.builtins⟩ ⟨mg, T'.g⟩, n3, let ⟨bm, ob, m⟩ := bmod_of_top T'; ⟨mg, bm, ob, m⟩⟩
 have G : Sg s₁ := ⟨⟨#[], tb0.1, tb0.2, trivial⟩, .of_eq hg⟩
 refine law_ok W (A := callerA) ⟨rfl, by decide, by decide⟩ (X := fun _ => False) ⟨fun b o e => of_hideAll _ e, fun _ f => f.elim, fun _ f => f.elim⟩ (fun f => f) G (.list (fun f => f) ho (by refine rwG List.toList_toArray ?_; exact well_ints I)) hl rfl fun s' k sg os => h s' ?_ os sg.bare
 refine xEAA sg.tab fun ps _ hP _ => ?_
 refine ⟨fun b o e => ?_, fun b o e => ?_⟩
 ·by_cases hb : b = 123
  ·subst hb
   rw [tb0.2] at e
   obtain rfl := osi e
   exact .inr (.inl ⟨(tb0.1.tab tb0.2).isCodeTable, rfl, #[], ps, rfl, by refine rwG Array.empty_append ?_; exact hP⟩)
  ·exact .inl (k b o hb e)
 ·by_cases hb : b = 123
  ·subst hb
   exact ⟨_, hP⟩
  ·exact ⟨o, k b o hb e⟩
end
end Mine
open Mine
theorem PySem.Challenge.cw_mj0223_01_holds : PySem.Challenge.rw_mj0223_01.Holds := by
 refine hd ?_
 intro w s₀ s₁ mg mb G Y fa o pm cd doc dV kV ho hd hcd hD hmg hg args vals as hpre hlay hrd hwl hlo
 have KX := kIn_of Y
 have T := G.T
 clear Y ho hd hcd hD G
 have hfa : mg (ofString "law") = some (.ref fa) := hmg
 clear hmg
 wrow_args hpre hlay hrd hwl hlo
 all_goals (
  rename_i _ _ _ _ _ _ _ _ vs _ hL _ hW _ I _ hc _
  cases hW with
  | list ho hws =>
  have e := ho
  obtain ⟨o', e1, _, n, e2⟩ := hL
  rw [e1] at e
  obtain rfl := osi e
  have e3 : vs = _ := congrArg Array.toList (Data.seq.inj e2).1.symm
  subst e3
  refine law_top T KX rfl hg hfa ho I (by omega) fun s' K os bare => ?_
  refine ⟨.inl ⟨.bool true, .bool true, [], rfl, ?_, .bool true, ?_, fun _ => ⟨List.nodup_nil, fun a ha => nomatch ha⟩⟩, K, os, bare⟩
  ·exact raisesW_false (by wrow_none_raised)
  ·wrow_post)
