import PyProof.Rows.All
import Wide.All
import OpenK.AllK
import Wide.FinOn
import OpenK.ZGo
import PySem.Challenge.RW_uk0021_01
set_option Elab.async false
set_option maxRecDepth 100000
set_option maxHeartbeats 8000000
set_option linter.unusedVariables false
set_option linter.unusedSimpArgs false
set_option linter.all false
set_option compiler.extract_closed false
set_option genSizeOf false
noncomputable section
/- HK -/
namespace Mine
open PySem PySem.W
noncomputable def body0 : Program → List Stmt := fun p => p.main.body
noncomputable def nth : Nat → List Stmt → Option Stmt
  | _, [] => none
  | 0, s :: _ => some s
  | n + 1, _ :: r => nth n r
noncomputable def stAt (i : Nat) : Option Stmt := nth i (body0 PySem.Challenge.pw_uk0021_01)
noncomputable def mtAt (i : Nat) : Option Stmt := match stAt 11 with
  | some (.ClassDef _ _ _ b _ _ _ _ _ _ _) => nth i b
  | _ => none
/-- a def, as it lies in the heap -/
noncomputable def fnGen (s : Option Stmt) (q : Str) (cl : Value) (gl : Addr) (dV kV m c : Value) : Obj := match s with
  | some (.FunctionDef n ps b _ _ _ sc _ _ _) => { cls := cl, data := .func { name := n, qualname := q, params := ps, body := .stmts b, scope := sc, globals := gl, closure := [], defaults := dV, kwdefaults := kV, pyModule := m, code := c } }
  | _ => { cls := .none, data := .plain }
noncomputable def fnObj (s : Option Stmt) (q : Str) (dV kV m : Value) (c : Addr) : Obj := fnGen s q (.type "function") 3 dV kV m (.ref c)
/-- a def's text, as it lies in the heap -/
noncomputable def fnRaw (s : Option Stmt) (q : Str) : Obj := fnGen s q .none 0 .none .none .none .none
noncomputable def Kh (P : Params) : Frag := [
  (3, { cls := Value.type "dict", data := Data.dict #[{ hash := PyData.keyHash P (Str.ofString "__name__"), key := Value.str (Str.ofString "__name__") 165, val := Value.str (Str.ofString "law_uk0021_01") 632 }, { hash := PyData.keyHash P (Str.ofString "__doc__"), key := Value.str (Str.ofString "__doc__") 166, val := Value.none }, { hash := PyData.keyHash P (Str.ofString "__package__"), key := Value.str (Str.ofString "__package__") 167, val := Value.none }, { hash := PyData.keyHash P (Str.ofString "__loader__"), key := Value.str (Str.ofString "__loader__") 168, val := Value.builtin "__main__.__loader__#opaque" }, { hash := PyData.keyHash P (Str.ofString "__spec__"), key := Value.str (Str.ofString "__spec__") 169, val := Value.none }, { hash := PyData.keyHash P (Str.ofString "__annotations__"), key := Value.str (Str.ofString "__annotations__") 170, val := Value.ref 6 }, { hash := PyData.keyHash P (Str.ofString "__builtins__"), key := Value.str (Str.ofString "__builtins__") 171, val := Value.ref 4 }, { hash := PyData.keyHash P (Str.ofString "__file__"), key := Value.str (Str.ofString "__file__") 173, val := Value.str (Str.ofString "/claim/cut.py") 172 }, { hash := PyData.keyHash P (Str.ofString "__cached__"), key := Value.str (Str.ofString "__cached__") 174, val := Value.none }, { hash := PyData.keyHash P (Str.ofString "_sre"), key := Value.str (Str.ofString "_sre") 275, val := Value.ref 12 }, { hash := PyData.keyHash P (Str.ofString "_wall"), key := Value.str (Str.ofString "_wall") 288, val := Value.ref 38 }, { hash := PyData.keyHash P (Str.ofString "insort_right"), key := Value.str (Str.ofString "insort_right") 303, val := Value.ref 47 }, { hash := PyData.keyHash P (Str.ofString "bisect_right"), key := Value.str (Str.ofString "bisect_right") 317, val := Value.ref 56 }, { hash := PyData.keyHash P (Str.ofString "bisect_left"), key := Value.str (Str.ofString "bisect_left") 331, val := Value.ref 65 }, { hash := PyData.keyHash P (Str.ofString "tspecials"), key := Value.str (Str.ofString "tspecials") 367, val := Value.ref 70 }, { hash := PyData.keyHash P (Str.ofString "_name_disallowed_re"), key := Value.str (Str.ofString "_name_disallowed_re") 393, val := Value.ref 75 }, { hash := PyData.keyHash P (Str.ofString "_value_disallowed_re"), key := Value.str (Str.ofString "_value_disallowed_re") 427, val := Value.ref 80 }, { hash := PyData.keyHash P (Str.ofString "_formatparam"), key := Value.str (Str.ofString "_formatparam") 437, val := Value.ref 88 }, { hash := PyData.keyHash P (Str.ofString "Headers"), key := Value.str (Str.ofString "Headers") 594, val := Value.ref 209 }, { hash := PyData.keyHash P (Str.ofString "_raise_serialization_error"), key := Value.str (Str.ofString "_raise_serialization_error") 603, val := Value.ref 220 }, { hash := PyData.keyHash P (Str.ofString "_escape_cdata"), key := Value.str (Str.ofString "_escape_cdata") 610, val := Value.ref 227 }, { hash := PyData.keyHash P (Str.ofString "_escape_attrib"), key := Value.str (Str.ofString "_escape_attrib") 617, val := Value.ref 234 }, { hash := PyData.keyHash P (Str.ofString "_escape_cdata_c14n"), key := Value.str (Str.ofString "_escape_cdata_c14n") 624, val := Value.ref 241 }, { hash := PyData.keyHash P (Str.ofString "_escape_attrib_c14n"), key := Value.str (Str.ofString "_escape_attrib_c14n") 631, val := Value.ref 248 }, { hash := PyData.keyHash P (Str.ofString "_law_drawn"), key := Value.str (Str.ofString "_law_drawn") 647, val := Value.ref 255 }, { hash := PyData.keyHash P (Str.ofString "_law_hand"), key := Value.str (Str.ofString "_law_hand") 655, val := Value.ref 262 }, { hash := PyData.keyHash P (Str.ofString "_law_spelled"), key := Value.str (Str.ofString "_law_spelled") 661, val := Value.ref 267 }, { hash := PyData.keyHash P (Str.ofString "_law_page"), key := Value.str (Str.ofString "_law_page") 667, val := Value.ref 272 }, { hash := PyData.keyHash P (Str.ofString "_law_read"), key := Value.str (Str.ofString "_law_read") 681, val := Value.ref 279 }, { hash := PyData.keyHash P (Str.ofString "_law_index"), key := Value.str (Str.ofString "_law_index") 692, val := Value.ref 286 }, { hash := PyData.keyHash P (Str.ofString "_law_row"), key := Value.str (Str.ofString "_law_row") 701, val := Value.ref 293 }, { hash := PyData.keyHash P (Str.ofString "_law_common"), key := Value.str (Str.ofString "_law_common") 712, val := Value.ref 300 }, { hash := PyData.keyHash P (Str.ofString "_law_nearest"), key := Value.str (Str.ofString "_law_nearest") 718, val := Value.ref 305 }, { hash := PyData.keyHash P (Str.ofString "_law_tag"), key := Value.str (Str.ofString "_law_tag") 726, val := Value.ref 312 }, { hash := PyData.keyHash P (Str.ofString "_law_found"), key := Value.str (Str.ofString "_law_found") 732, val := Value.ref 317 }, { hash := PyData.keyHash P (Str.ofString "_law_whole"), key := Value.str (Str.ofString "_law_whole") 738, val := Value.ref 322 }, { hash := PyData.keyHash P (Str.ofString "_law_parts"), key := Value.str (Str.ofString "_law_parts") 749, val := Value.ref 329 }, { hash := PyData.keyHash P (Str.ofString "_law_has"), key := Value.str (Str.ofString "_law_has") 759, val := Value.ref 336 }, { hash := PyData.keyHash P (Str.ofString "_law_least"), key := Value.str (Str.ofString "_law_least") 765, val := Value.ref 341 }, { hash := PyData.keyHash P (Str.ofString "law"), key := Value.str (Str.ofString "law") 771, val := Value.ref 346 }] 40 }),
  (39, { cls := Value.type "tuple", data := Data.seq #[Value.int 0 291, Value.none] }),
  (40, { cls := Value.type "dict", data := Data.dict #[{ hash := PyData.keyHash P (Str.ofString "key"), key := Value.str (Str.ofString "key") 292, val := Value.none }] 1 }),
  (46, { cls := Value.type "code", data := Data.fields #[Value.str (Str.ofString "insort_right") 293, Value.str (Str.ofString "insort_right") 294, Value.str (Str.ofString "/claim/cut.py") 295, Value.int 6 0, Value.int 4 0, Value.int 0 0, Value.int 1 0, Value.int 3 0, Value.ref 41, Value.bool true, Value.int 276 0, Value.ref 42, Value.none, Value.ref 43, Value.ref 44, Value.ref 45, Value.int 301 0, Value.int 6 0, Value.str (Str.ofString "/claim/cut.py") 302] }),
  (47, fnObj (stAt 3) (Str.ofString "insort_right") (Value.ref 39) (Value.ref 40) (Value.str (Str.ofString "cpy313.bisect") 289) 46),
  (48, { cls := Value.type "tuple", data := Data.seq #[Value.int 0 304, Value.none] }),
  (49, { cls := Value.type "dict", data := Data.dict #[{ hash := PyData.keyHash P (Str.ofString "key"), key := Value.str (Str.ofString "key") 305, val := Value.none }] 1 }),
  (55, { cls := Value.type "code", data := Data.fields #[Value.str (Str.ofString "bisect_right") 306, Value.str (Str.ofString "bisect_right") 307, Value.str (Str.ofString "/claim/cut.py") 308, Value.int 12 0, Value.int 4 0, Value.int 0 0, Value.int 1 0, Value.int 3 0, Value.ref 50, Value.bool true, Value.int 276 0, Value.ref 51, Value.none, Value.ref 52, Value.ref 53, Value.ref 54, Value.int 315 0, Value.int 12 0, Value.str (Str.ofString "/claim/cut.py") 316] }),
  (56, fnObj (stAt 4) (Str.ofString "bisect_right") (Value.ref 48) (Value.ref 49) (Value.str (Str.ofString "cpy313.bisect") 289) 55),
  (57, { cls := Value.type "tuple", data := Data.seq #[Value.int 0 318, Value.none] }),
  (58, { cls := Value.type "dict", data := Data.dict #[{ hash := PyData.keyHash P (Str.ofString "key"), key := Value.str (Str.ofString "key") 319, val := Value.none }] 1 }),
  (64, { cls := Value.type "code", data := Data.fields #[Value.str (Str.ofString "bisect_left") 320, Value.str (Str.ofString "bisect_left") 321, Value.str (Str.ofString "/claim/cut.py") 322, Value.int 32 0, Value.int 4 0, Value.int 0 0, Value.int 1 0, Value.int 3 0, Value.ref 59, Value.bool true, Value.int 276 0, Value.ref 60, Value.none, Value.ref 61, Value.ref 62, Value.ref 63, Value.int 329 0, Value.int 32 0, Value.str (Str.ofString "/claim/cut.py") 330] }),
  (65, fnObj (stAt 5) (Str.ofString "bisect_left") (Value.ref 57) (Value.ref 58) (Value.str (Str.ofString "cpy313.bisect") 289) 64),
  (69, { cls := Value.type "tuple", data := Data.seq #[Value.int 14 0, Value.int 14 0, Value.int 4 0, Value.int 1 0, Value.int 1 0, Value.int 9 0, Value.int 0 0, Value.int 4227896069 0, Value.int 939524097 0, Value.int 0 0, Value.int 0 0, Value.int 0 0, Value.int 0 0, Value.int 0 0, Value.int 0 0, Value.int 13 0, Value.int 11 0, Value.int 9 0, Value.int 0 0, Value.int 4227896069 0, Value.int 939524097 0, Value.int 0 0, Value.int 0 0, Value.int 0 0, Value.int 0 0, Value.int 0 0, Value.int 0 0, Value.int 1 0] }),
  (70, { cls := Value.type "re.Pattern", data := Data.fields #[Value.str (Str.ofString "[ \\(\\)<>@,;:\\\\\"/\\[\\]\\?=]") 335, Value.int 32 366, Value.int 0 0, Value.none, Value.none, Value.ref 69, Value.int 0 0] }),
  (74, { cls := Value.type "tuple", data := Data.seq #[Value.int 14 0, Value.int 10 0, Value.int 4 0, Value.int 1 0, Value.int 1 0, Value.int 22 0, Value.int 0 0, Value.int 31 0, Value.int 16 0, Value.int 127 0, Value.int 0 0, Value.int 13 0, Value.int 7 0, Value.int 22 0, Value.int 0 0, Value.int 31 0, Value.int 16 0, Value.int 127 0, Value.int 0 0, Value.int 1 0] }),
  (75, { cls := Value.type "re.Pattern", data := Data.fields #[Value.str (Str.ofString "[\\x00-\\x1F\\x7F]") 369, Value.int 32 392, Value.int 0 0, Value.none, Value.none, Value.ref 74, Value.int 0 0] }),
  (79, { cls := Value.type "tuple", data := Data.seq #[Value.int 14 0, Value.int 14 0, Value.int 4 0, Value.int 1 0, Value.int 1 0, Value.int 9 0, Value.int 4294966783 0, Value.int 0 0, Value.int 0 0, Value.int 2147483648 0, Value.int 0 0, Value.int 0 0, Value.int 0 0, Value.int 0 0, Value.int 0 0, Value.int 13 0, Value.int 11 0, Value.int 9 0, Value.int 4294966783 0, Value.int 0 0, Value.int 0 0, Value.int 2147483648 0, Value.int 0 0, Value.int 0 0, Value.int 0 0, Value.int 0 0, Value.int 0 0, Value.int 1 0] }),
  (80, { cls := Value.type "re.Pattern", data := Data.fields #[Value.str (Str.ofString "[\\x00-\\x08\\x0A-\\x1F\\x7F]") 395, Value.int 32 426, Value.int 0 0, Value.none, Value.none, Value.ref 79, Value.int 0 0] }),
  (96, { cls := Value.type "tuple", data := Data.seq #[Value.none] }),
  (102, { cls := Value.type "code", data := Data.fields #[Value.str (Str.ofString "__init__") 450, Value.str (Str.ofString "Headers.__init__") 451, Value.str (Str.ofString "/claim/cut.py") 452, Value.int 67 0, Value.int 2 0, Value.int 0 0, Value.int 0 0, Value.int 3 0, Value.ref 97, Value.bool true, Value.int 276 0, Value.ref 98, Value.none, Value.ref 99, Value.ref 100, Value.ref 101, Value.int 457 0, Value.int 67 0, Value.str (Str.ofString "/claim/cut.py") 458] }),
  (103, fnObj (mtAt 0) (Str.ofString "Headers.__init__") (Value.ref 96) Value.none (Value.str (Str.ofString "cpy313.wsgiref.headers") 332) 102),
  (109, { cls := Value.type "code", data := Data.fields #[Value.str (Str.ofString "_convert_string_type") 460, Value.str (Str.ofString "Headers._convert_string_type") 461, Value.str (Str.ofString "/claim/cut.py") 462, Value.int 77 0, Value.int 2 0, Value.int 0 0, Value.int 1 0, Value.int 3 0, Value.ref 104, Value.bool true, Value.int 276 0, Value.ref 105, Value.none, Value.ref 106, Value.ref 107, Value.ref 108, Value.int 467 0, Value.int 77 0, Value.str (Str.ofString "/claim/cut.py") 468] }),
  (110, fnObj (mtAt 1) (Str.ofString "Headers._convert_string_type") Value.none Value.none (Value.str (Str.ofString "cpy313.wsgiref.headers") 332) 109),
  (147, { cls := Value.type "code", data := Data.fields #[Value.str (Str.ofString "get_all") 508, Value.str (Str.ofString "Headers.get_all") 509, Value.str (Str.ofString "/claim/cut.py") 510, Value.int 102 0, Value.int 2 0, Value.int 0 0, Value.int 0 0, Value.int 3 0, Value.ref 144, Value.bool true, Value.int 276 0, Value.ref 145, Value.none, Value.none, Value.none, Value.ref 146, Value.int 511 0, Value.int 102 0, Value.str (Str.ofString "/claim/cut.py") 512] }),
  (148, fnObj (mtAt 7) (Str.ofString "Headers.get_all") Value.none Value.none (Value.str (Str.ofString "cpy313.wsgiref.headers") 332) 147),
  (160, { cls := Value.type "code", data := Data.fields #[Value.str (Str.ofString "keys") 525, Value.str (Str.ofString "Headers.keys") 526, Value.str (Str.ofString "/claim/cut.py") 527, Value.int 113 0, Value.int 1 0, Value.int 0 0, Value.int 0 0, Value.int 3 0, Value.ref 157, Value.bool true, Value.int 276 0, Value.ref 158, Value.none, Value.none, Value.none, Value.ref 159, Value.int 528 0, Value.int 113 0, Value.str (Str.ofString "/claim/cut.py") 529] }),
  (161, fnObj (mtAt 9) (Str.ofString "Headers.keys") Value.none Value.none (Value.str (Str.ofString "cpy313.wsgiref.headers") 332) 160),
  (165, { cls := Value.type "code", data := Data.fields #[Value.str (Str.ofString "values") 531, Value.str (Str.ofString "Headers.values") 532, Value.str (Str.ofString "/claim/cut.py") 533, Value.int 116 0, Value.int 1 0, Value.int 0 0, Value.int 0 0, Value.int 3 0, Value.ref 162, Value.bool true, Value.int 276 0, Value.ref 163, Value.none, Value.none, Value.none, Value.ref 164, Value.int 534 0, Value.int 116 0, Value.str (Str.ofString "/claim/cut.py") 535] }),
  (166, fnObj (mtAt 10) (Str.ofString "Headers.values") Value.none Value.none (Value.str (Str.ofString "cpy313.wsgiref.headers") 332) 165),
  (172, { cls := Value.type "code", data := Data.fields #[Value.str (Str.ofString "items") 537, Value.str (Str.ofString "Headers.items") 538, Value.str (Str.ofString "/claim/cut.py") 539, Value.int 119 0, Value.int 1 0, Value.int 0 0, Value.int 0 0, Value.int 3 0, Value.ref 167, Value.bool true, Value.int 276 0, Value.ref 168, Value.none, Value.ref 169, Value.ref 170, Value.ref 171, Value.int 541 0, Value.int 119 0, Value.str (Str.ofString "/claim/cut.py") 542] }),
  (173, fnObj (mtAt 11) (Str.ofString "Headers.items") Value.none Value.none (Value.str (Str.ofString "cpy313.wsgiref.headers") 332) 172),
  (205, { cls := Value.type "code", data := Data.fields #[Value.str (Str.ofString "add_header") 573, Value.str (Str.ofString "Headers.add_header") 574, Value.str (Str.ofString "/claim/cut.py") 575, Value.int 134 0, Value.int 3 0, Value.int 0 0, Value.int 0 0, Value.int 11 0, Value.ref 200, Value.bool true, Value.int 276 0, Value.ref 201, Value.none, Value.ref 202, Value.ref 203, Value.ref 204, Value.int 583 0, Value.int 134 0, Value.str (Str.ofString "/claim/cut.py") 584] }),
  (206, fnObj (mtAt 16) (Str.ofString "Headers.add_header") Value.none Value.none (Value.str (Str.ofString "cpy313.wsgiref.headers") 332) 205),
  (207, { cls := Value.type "tuple", data := Data.seq #[Value.str (Str.ofString "_headers") 586] }),
  (208, { cls := Value.type "dict", data := Data.dict #[{ hash := PyData.keyHash P (Str.ofString "__module__"), key := Value.str (Str.ofString "__module__") 445, val := Value.str (Str.ofString "cpy313.wsgiref.headers") 332 }, { hash := PyData.keyHash P (Str.ofString "__firstlineno__"), key := Value.str (Str.ofString "__firstlineno__") 449, val := Value.int 65 448 }, { hash := PyData.keyHash P (Str.ofString "__init__"), key := Value.str (Str.ofString "__init__") 459, val := Value.ref 103 }, { hash := PyData.keyHash P (Str.ofString "_convert_string_type"), key := Value.str (Str.ofString "_convert_string_type") 469, val := Value.ref 110 }, { hash := PyData.keyHash P (Str.ofString "__len__"), key := Value.str (Str.ofString "__len__") 476, val := Value.ref 117 }, { hash := PyData.keyHash P (Str.ofString "__setitem__"), key := Value.str (Str.ofString "__setitem__") 485, val := Value.ref 124 }, { hash := PyData.keyHash P (Str.ofString "__delitem__"), key := Value.str (Str.ofString "__delitem__") 491, val := Value.ref 129 }, { hash := PyData.keyHash P (Str.ofString "__getitem__"), key := Value.str (Str.ofString "__getitem__") 499, val := Value.ref 136 }, { hash := PyData.keyHash P (Str.ofString "__contains__"), key := Value.str (Str.ofString "__contains__") 507, val := Value.ref 143 }, { hash := PyData.keyHash P (Str.ofString "get_all"), key := Value.str (Str.ofString "get_all") 513, val := Value.ref 148 }, { hash := PyData.keyHash P (Str.ofString "get"), key := Value.str (Str.ofString "get") 524, val := Value.ref 156 }, { hash := PyData.keyHash P (Str.ofString "keys"), key := Value.str (Str.ofString "keys") 530, val := Value.ref 161 }, { hash := PyData.keyHash P (Str.ofString "values"), key := Value.str (Str.ofString "values") 536, val := Value.ref 166 }, { hash := PyData.keyHash P (Str.ofString "items"), key := Value.str (Str.ofString "items") 543, val := Value.ref 173 }, { hash := PyData.keyHash P (Str.ofString "__repr__"), key := Value.str (Str.ofString "__repr__") 550, val := Value.ref 180 }, { hash := PyData.keyHash P (Str.ofString "__str__"), key := Value.str (Str.ofString "__str__") 556, val := Value.ref 185 }, { hash := PyData.keyHash P (Str.ofString "__bytes__"), key := Value.str (Str.ofString "__bytes__") 563, val := Value.ref 192 }, { hash := PyData.keyHash P (Str.ofString "setdefault"), key := Value.str (Str.ofString "setdefault") 572, val := Value.ref 199 }, { hash := PyData.keyHash P (Str.ofString "add_header"), key := Value.str (Str.ofString "add_header") 585, val := Value.ref 206 }, { hash := PyData.keyHash P (Str.ofString "__static_attributes__"), key := Value.str (Str.ofString "__static_attributes__") 587, val := Value.ref 207 }, { hash := PyData.keyHash P (Str.ofString "__dict__"), key := Value.str (Str.ofString "__dict__") 589, val := Value.ref 210 }, { hash := PyData.keyHash P (Str.ofString "__weakref__"), key := Value.str (Str.ofString "__weakref__") 591, val := Value.ref 211 }, { hash := PyData.keyHash P (Str.ofString "__doc__"), key := Value.str (Str.ofString "__doc__") 592, val := Value.none }] 4 }),
  (209, { cls := Value.type "type", data := Data.cls { name := Str.ofString "Headers", bases := [Value.type "object"], mro := [Value.ref 209, Value.type "object"], ns := 208, qualname := Str.ofString "Headers" }, slots := #[none, none, some (Value.str (Str.ofString "Headers") 438), some (Value.str (Str.ofString "Headers") 446), some (Value.builtin "object.__new__"), some (Value.bool true)] }),
  (226, { cls := Value.type "code", data := Data.fields #[Value.str (Str.ofString "_escape_cdata") 604, Value.str (Str.ofString "_escape_cdata") 605, Value.str (Str.ofString "/claim/cut.py") 606, Value.int 150 0, Value.int 1 0, Value.int 0 0, Value.int 0 0, Value.int 3 0, Value.ref 221, Value.bool true, Value.int 276 0, Value.ref 222, Value.none, Value.ref 223, Value.ref 224, Value.ref 225, Value.int 608 0, Value.int 150 0, Value.str (Str.ofString "/claim/cut.py") 609] }),
  (227, fnObj (stAt 14) (Str.ofString "_escape_cdata") Value.none Value.none (Value.str (Str.ofString "cpy313.xml.etree.ElementTree") 595) 226),
  (233, { cls := Value.type "code", data := Data.fields #[Value.str (Str.ofString "_escape_attrib") 611, Value.str (Str.ofString "_escape_attrib") 612, Value.str (Str.ofString "/claim/cut.py") 613, Value.int 161 0, Value.int 1 0, Value.int 0 0, Value.int 0 0, Value.int 3 0, Value.ref 228, Value.bool true, Value.int 276 0, Value.ref 229, Value.none, Value.ref 230, Value.ref 231, Value.ref 232, Value.int 615 0, Value.int 161 0, Value.str (Str.ofString "/claim/cut.py") 616] }),
  (234, fnObj (stAt 15) (Str.ofString "_escape_attrib") Value.none Value.none (Value.str (Str.ofString "cpy313.xml.etree.ElementTree") 595) 233),
  (240, { cls := Value.type "code", data := Data.fields #[Value.str (Str.ofString "_escape_cdata_c14n") 618, Value.str (Str.ofString "_escape_cdata_c14n") 619, Value.str (Str.ofString "/claim/cut.py") 620, Value.int 180 0, Value.int 1 0, Value.int 0 0, Value.int 0 0, Value.int 3 0, Value.ref 235, Value.bool true, Value.int 276 0, Value.ref 236, Value.none, Value.ref 237, Value.ref 238, Value.ref 239, Value.int 622 0, Value.int 180 0, Value.str (Str.ofString "/claim/cut.py") 623] }),
  (241, fnObj (stAt 16) (Str.ofString "_escape_cdata_c14n") Value.none Value.none (Value.str (Str.ofString "cpy313.xml.etree.ElementTree") 595) 240),
  (247, { cls := Value.type "code", data := Data.fields #[Value.str (Str.ofString "_escape_attrib_c14n") 625, Value.str (Str.ofString "_escape_attrib_c14n") 626, Value.str (Str.ofString "/claim/cut.py") 627, Value.int 193 0, Value.int 1 0, Value.int 0 0, Value.int 0 0, Value.int 3 0, Value.ref 242, Value.bool true, Value.int 276 0, Value.ref 243, Value.none, Value.ref 244, Value.ref 245, Value.ref 246, Value.int 629 0, Value.int 193 0, Value.str (Str.ofString "/claim/cut.py") 630] }),
  (248, fnObj (stAt 17) (Str.ofString "_escape_attrib_c14n") Value.none Value.none (Value.str (Str.ofString "cpy313.xml.etree.ElementTree") 595) 247),
  (254, { cls := Value.type "code", data := Data.fields #[Value.str (Str.ofString "_law_drawn") 634, Value.str (Str.ofString "_law_drawn") 635, Value.str (Str.ofString "/claim/cut.py") 636, Value.int 211 0, Value.int 1 0, Value.int 0 0, Value.int 0 0, Value.int 3 0, Value.ref 249, Value.bool true, Value.int 276 0, Value.ref 250, Value.none, Value.ref 251, Value.ref 252, Value.ref 253, Value.int 645 0, Value.int 211 0, Value.str (Str.ofString "/claim/cut.py") 646] }),
  (255, fnObj (stAt 19) (Str.ofString "_law_drawn") Value.none Value.none (Value.str (Str.ofString "law_uk0021_01") 632) 254),
  (261, { cls := Value.type "code", data := Data.fields #[Value.str (Str.ofString "_law_hand") 648, Value.str (Str.ofString "_law_hand") 649, Value.str (Str.ofString "/claim/cut.py") 650, Value.int 228 0, Value.int 2 0, Value.int 0 0, Value.int 0 0, Value.int 3 0, Value.ref 256, Value.bool true, Value.int 276 0, Value.ref 257, Value.none, Value.ref 258, Value.ref 259, Value.ref 260, Value.int 653 0, Value.int 228 0, Value.str (Str.ofString "/claim/cut.py") 654] }),
  (262, fnObj (stAt 20) (Str.ofString "_law_hand") Value.none Value.none (Value.str (Str.ofString "law_uk0021_01") 632) 261),
  (266, { cls := Value.type "code", data := Data.fields #[Value.str (Str.ofString "_law_spelled") 656, Value.str (Str.ofString "_law_spelled") 657, Value.str (Str.ofString "/claim/cut.py") 658, Value.int 236 0, Value.int 2 0, Value.int 0 0, Value.int 0 0, Value.int 3 0, Value.ref 263, Value.bool true, Value.int 276 0, Value.ref 264, Value.none, Value.none, Value.none, Value.ref 265, Value.int 659 0, Value.int 236 0, Value.str (Str.ofString "/claim/cut.py") 660] }),
  (267, fnObj (stAt 21) (Str.ofString "_law_spelled") Value.none Value.none (Value.str (Str.ofString "law_uk0021_01") 632) 266),
  (271, { cls := Value.type "code", data := Data.fields #[Value.str (Str.ofString "_law_page") 662, Value.str (Str.ofString "_law_page") 663, Value.str (Str.ofString "/claim/cut.py") 664, Value.int 239 0, Value.int 5 0, Value.int 0 0, Value.int 0 0, Value.int 3 0, Value.ref 268, Value.bool true, Value.int 276 0, Value.ref 269, Value.none, Value.none, Value.none, Value.ref 270, Value.int 665 0, Value.int 239 0, Value.str (Str.ofString "/claim/cut.py") 666] }),
  (272, fnObj (stAt 22) (Str.ofString "_law_page") Value.none Value.none (Value.str (Str.ofString "law_uk0021_01") 632) 271),
  (278, { cls := Value.type "code", data := Data.fields #[Value.str (Str.ofString "_law_read") 668, Value.str (Str.ofString "_law_read") 669, Value.str (Str.ofString "/claim/cut.py") 670, Value.int 246 0, Value.int 1 0, Value.int 0 0, Value.int 0 0, Value.int 3 0, Value.ref 273, Value.bool true, Value.int 276 0, Value.ref 274, Value.none, Value.ref 275, Value.ref 276, Value.ref 277, Value.int 679 0, Value.int 246 0, Value.str (Str.ofString "/claim/cut.py") 680] }),
  (279, fnObj (stAt 23) (Str.ofString "_law_read") Value.none Value.none (Value.str (Str.ofString "law_uk0021_01") 632) 278),
  (285, { cls := Value.type "code", data := Data.fields #[Value.str (Str.ofString "_law_index") 682, Value.str (Str.ofString "_law_index") 683, Value.str (Str.ofString "/claim/cut.py") 684, Value.int 264 0, Value.int 3 0, Value.int 0 0, Value.int 0 0, Value.int 3 0, Value.ref 280, Value.bool true, Value.int 276 0, Value.ref 281, Value.none, Value.ref 282, Value.ref 283, Value.ref 284, Value.int 690 0, Value.int 264 0, Value.str (Str.ofString "/claim/cut.py") 691] }),
  (286, fnObj (stAt 24) (Str.ofString "_law_index") Value.none Value.none (Value.str (Str.ofString "law_uk0021_01") 632) 285),
  (292, { cls := Value.type "code", data := Data.fields #[Value.str (Str.ofString "_law_row") 693, Value.str (Str.ofString "_law_row") 694, Value.str (Str.ofString "/claim/cut.py") 695, Value.int 269 0, Value.int 1 0, Value.int 0 0, Value.int 0 0, Value.int 3 0, Value.ref 287, Value.bool true, Value.int 276 0, Value.ref 288, Value.none, Value.ref 289, Value.ref 290, Value.ref 291, Value.int 699 0, Value.int 269 0, Value.str (Str.ofString "/claim/cut.py") 700] }),
  (293, fnObj (stAt 25) (Str.ofString "_law_row") Value.none Value.none (Value.str (Str.ofString "law_uk0021_01") 632) 292),
  (299, { cls := Value.type "code", data := Data.fields #[Value.str (Str.ofString "_law_common") 702, Value.str (Str.ofString "_law_common") 703, Value.str (Str.ofString "/claim/cut.py") 704, Value.int 275 0, Value.int 4 0, Value.int 0 0, Value.int 0 0, Value.int 3 0, Value.ref 294, Value.bool true, Value.int 276 0, Value.ref 295, Value.none, Value.ref 296, Value.ref 297, Value.ref 298, Value.int 710 0, Value.int 275 0, Value.str (Str.ofString "/claim/cut.py") 711] }),
  (300, fnObj (stAt 26) (Str.ofString "_law_common") Value.none Value.none (Value.str (Str.ofString "law_uk0021_01") 632) 299),
  (304, { cls := Value.type "code", data := Data.fields #[Value.str (Str.ofString "_law_nearest") 713, Value.str (Str.ofString "_law_nearest") 714, Value.str (Str.ofString "/claim/cut.py") 715, Value.int 280 0, Value.int 5 0, Value.int 0 0, Value.int 0 0, Value.int 3 0, Value.ref 301, Value.bool true, Value.int 276 0, Value.ref 302, Value.none, Value.none, Value.none, Value.ref 303, Value.int 716 0, Value.int 280 0, Value.str (Str.ofString "/claim/cut.py") 717] }),
  (305, fnObj (stAt 27) (Str.ofString "_law_nearest") Value.none Value.none (Value.str (Str.ofString "law_uk0021_01") 632) 304),
  (311, { cls := Value.type "code", data := Data.fields #[Value.str (Str.ofString "_law_tag") 719, Value.str (Str.ofString "_law_tag") 720, Value.str (Str.ofString "/claim/cut.py") 721, Value.int 283 0, Value.int 2 0, Value.int 0 0, Value.int 0 0, Value.int 3 0, Value.ref 306, Value.bool true, Value.int 276 0, Value.ref 307, Value.none, Value.ref 308, Value.ref 309, Value.ref 310, Value.int 724 0, Value.int 283 0, Value.str (Str.ofString "/claim/cut.py") 725] }),
  (312, fnObj (stAt 28) (Str.ofString "_law_tag") Value.none Value.none (Value.str (Str.ofString "law_uk0021_01") 632) 311),
  (316, { cls := Value.type "code", data := Data.fields #[Value.str (Str.ofString "_law_found") 727, Value.str (Str.ofString "_law_found") 728, Value.str (Str.ofString "/claim/cut.py") 729, Value.int 285 0, Value.int 5 0, Value.int 0 0, Value.int 0 0, Value.int 3 0, Value.ref 313, Value.bool true, Value.int 276 0, Value.ref 314, Value.none, Value.none, Value.none, Value.ref 315, Value.int 730 0, Value.int 285 0, Value.str (Str.ofString "/claim/cut.py") 731] }),
  (317, fnObj (stAt 29) (Str.ofString "_law_found") Value.none Value.none (Value.str (Str.ofString "law_uk0021_01") 632) 316),
  (321, { cls := Value.type "code", data := Data.fields #[Value.str (Str.ofString "_law_whole") 733, Value.str (Str.ofString "_law_whole") 734, Value.str (Str.ofString "/claim/cut.py") 735, Value.int 293 0, Value.int 2 0, Value.int 0 0, Value.int 0 0, Value.int 3 0, Value.ref 318, Value.bool true, Value.int 276 0, Value.ref 319, Value.none, Value.none, Value.none, Value.ref 320, Value.int 736 0, Value.int 293 0, Value.str (Str.ofString "/claim/cut.py") 737] }),
  (322, fnObj (stAt 30) (Str.ofString "_law_whole") Value.none Value.none (Value.str (Str.ofString "law_uk0021_01") 632) 321),
  (328, { cls := Value.type "code", data := Data.fields #[Value.str (Str.ofString "_law_parts") 739, Value.str (Str.ofString "_law_parts") 740, Value.str (Str.ofString "/claim/cut.py") 741, Value.int 304 0, Value.int 2 0, Value.int 0 0, Value.int 0 0, Value.int 3 0, Value.ref 323, Value.bool true, Value.int 276 0, Value.ref 324, Value.none, Value.ref 325, Value.ref 326, Value.ref 327, Value.int 747 0, Value.int 304 0, Value.str (Str.ofString "/claim/cut.py") 748] }),
  (329, fnObj (stAt 31) (Str.ofString "_law_parts") Value.none Value.none (Value.str (Str.ofString "law_uk0021_01") 632) 328),
  (335, { cls := Value.type "code", data := Data.fields #[Value.str (Str.ofString "_law_has") 750, Value.str (Str.ofString "_law_has") 751, Value.str (Str.ofString "/claim/cut.py") 752, Value.int 312 0, Value.int 3 0, Value.int 0 0, Value.int 0 0, Value.int 3 0, Value.ref 330, Value.bool true, Value.int 276 0, Value.ref 331, Value.none, Value.ref 332, Value.ref 333, Value.ref 334, Value.int 757 0, Value.int 312 0, Value.str (Str.ofString "/claim/cut.py") 758] }),
  (336, fnObj (stAt 32) (Str.ofString "_law_has") Value.none Value.none (Value.str (Str.ofString "law_uk0021_01") 632) 335),
  (340, { cls := Value.type "code", data := Data.fields #[Value.str (Str.ofString "_law_least") 760, Value.str (Str.ofString "_law_least") 761, Value.str (Str.ofString "/claim/cut.py") 762, Value.int 315 0, Value.int 3 0, Value.int 0 0, Value.int 0 0, Value.int 3 0, Value.ref 337, Value.bool true, Value.int 276 0, Value.ref 338, Value.none, Value.none, Value.none, Value.ref 339, Value.int 763 0, Value.int 315 0, Value.str (Str.ofString "/claim/cut.py") 764] }),
  (341, fnObj (stAt 33) (Str.ofString "_law_least") Value.none Value.none (Value.str (Str.ofString "law_uk0021_01") 632) 340),
  (345, { cls := Value.type "code", data := Data.fields #[Value.str (Str.ofString "law") 766, Value.str (Str.ofString "law") 767, Value.str (Str.ofString "/claim/cut.py") 768, Value.int 322 0, Value.int 1 0, Value.int 0 0, Value.int 0 0, Value.int 3 0, Value.ref 342, Value.bool true, Value.int 276 0, Value.ref 343, Value.none, Value.none, Value.none, Value.ref 344, Value.int 769 0, Value.int 322 0, Value.str (Str.ofString "/claim/cut.py") 770] }),
  (346, fnObj (stAt 34) (Str.ofString "law") Value.none Value.none (Value.str (Str.ofString "law_uk0021_01") 632) 345)]
noncomputable def asK : List Addr := [3, 39, 40, 46, 47, 48, 49, 55, 56, 57, 58, 64, 65, 69, 70, 74, 75, 79, 80, 96, 102, 103, 109, 110, 147, 148, 160, 161, 165, 166, 172, 173, 205, 206, 207, 208, 209, 226, 227, 233, 234, 240, 241, 247, 248, 254, 255, 261, 262, 266, 267, 271, 272, 278, 279, 285, 286, 292, 293, 299, 300, 304, 305, 311, 312, 316, 317, 321, 322, 328, 329, 335, 336, 340, 341, 345, 346]
theorem asK_is (P : Params) : asK = (Kh P).map (·.1) := rfl
noncomputable def dropped : List Nat := [3, 4, 5, 7, 8, 9, 10]
end Mine
/- J7 -/
namespace Mine
open PySem PySem.W
noncomputable def de (P : Params) (k : String) (n : Nat) (v : Value) := ({ hash := PyData.keyHash P (Str.ofString k), key := Value.str (Str.ofString k) n, val := v } : DictEntry)
noncomputable def sV (k : String) (n : Nat) : Value := .str (Str.ofString k) n
noncomputable def rV (a : Nat) : Value := .ref a
noncomputable def H0 (P : Params) : Heap := { objs := { toList := [
  { cls := Value.type "dict", data := Data.dict #[de P "__name__" (nat_lit 1) (sV "builtins" (nat_lit 160)), de P "__doc__" (nat_lit 2) (Value.builtin "builtins.__doc__:str#opaque"), de P "__package__" (nat_lit 3) (Value.builtin "builtins.__package__:str#opaque"), de P "__loader__" (nat_lit 4) (Value.builtin "builtins.__loader__:shared#opaque"), de P "__spec__" (nat_lit 5) (Value.builtin "builtins.__spec__#opaque"), de P "__build_class__" (nat_lit 6) (Value.builtin "__build_class__"), de P "__import__" (nat_lit 7) (Value.builtin "__import__"), de P "abs" (nat_lit 8) (Value.builtin "abs"), de P "all" (nat_lit 9) (Value.builtin "all"), de P "any" (nat_lit 10) (Value.builtin "any"), de P "ascii" (nat_lit 11) (Value.builtin "ascii"), de P "bin" (nat_lit 12) (Value.builtin "bin"), de P "breakpoint" (nat_lit 13) (Value.builtin "breakpoint"), de P "callable" (nat_lit 14) (Value.builtin "callable"), de P "chr" (nat_lit 15) (Value.builtin "chr"), de P "compile" (nat_lit 16) (Value.builtin "compile"), de P "delattr" (nat_lit 17) (Value.builtin "delattr"), de P "dir" (nat_lit 18) (Value.builtin "dir"), de P "divmod" (nat_lit 19) (Value.builtin "divmod"), de P "eval" (nat_lit 20) (Value.builtin "eval"), de P "exec" (nat_lit 21) (Value.builtin "exec"), de P "format" (nat_lit 22) (Value.builtin "format"), de P "getattr" (nat_lit 23) (Value.builtin "getattr"), de P "globals" (nat_lit 24) (Value.builtin "globals"), de P "hasattr" (nat_lit 25) (Value.builtin "hasattr"), de P "hash" (nat_lit 26) (Value.builtin "hash"), de P "hex" (nat_lit 27) (Value.builtin "hex"), de P "id" (nat_lit 28) (Value.builtin "id"), de P "input" (nat_lit 29) (Value.builtin "input"), de P "isinstance" (nat_lit 30) (Value.builtin "isinstance"), de P "issubclass" (nat_lit 31) (Value.builtin "issubclass"), de P "iter" (nat_lit 32) (Value.builtin "iter"), de P "aiter" (nat_lit 33) (Value.builtin "aiter"), de P "len" (nat_lit 34) (Value.builtin "len"), de P "locals" (nat_lit 35) (Value.builtin "locals"), de P "max" (nat_lit 36) (Value.builtin "max"), de P "min" (nat_lit 37) (Value.builtin "min"), de P "next" (nat_lit 38) (Value.builtin "next"), de P "anext" (nat_lit 39) (Value.builtin "anext"), de P "oct" (nat_lit 40) (Value.builtin "oct"), de P "ord" (nat_lit 41) (Value.builtin "ord"), de P "pow" (nat_lit 42) (Value.builtin "pow"), de P "print" (nat_lit 43) (Value.builtin "print"), de P "repr" (nat_lit 44) (Value.builtin "repr"), de P "round" (nat_lit 45) (Value.builtin "round"), de P "setattr" (nat_lit 46) (Value.builtin "setattr"), de P "sorted" (nat_lit 47) (Value.builtin "sorted"), de P "sum" (nat_lit 48) (Value.builtin "sum"), de P "vars" (nat_lit 49) (Value.builtin "vars"), de P "None" (nat_lit 50) Value.none, de P "Ellipsis" (nat_lit 51) Value.ellipsis, de P "NotImplemented" (nat_lit 52) Value.notImplemented, de P "False" (nat_lit 53) (Value.bool false), de P "True" (nat_lit 54) (Value.bool true), de P "bool" (nat_lit 55) (Value.type "bool"), de P "memoryview" (nat_lit 56) (Value.type "memoryview"), de P "bytearray" (nat_lit 57) (Value.type "bytearray"), de P "bytes" (nat_lit 58) (Value.type "bytes"), de P "classmethod" (nat_lit 59) (Value.type "classmethod"), de P "complex" (nat_lit 60) (Value.type "complex"), de P "dict" (nat_lit 61) (Value.type "dict"), de P "enumerate" (nat_lit 62) (Value.type "enumerate"), de P "filter" (nat_lit 63) (Value.type "filter"), de P "float" (nat_lit 64) (Value.type "float"), de P "frozenset" (nat_lit 65) (Value.type "frozenset"), de P "property" (nat_lit 66) (Value.type "property"), de P "int" (nat_lit 67) (Value.type "int"), de P "list" (nat_lit 68) (Value.type "list"), de P "map" (nat_lit 69) (Value.type "map"), de P "object" (nat_lit 70) (Value.type "object"), de P "range" (nat_lit 71) (Value.type "range"), de P "reversed" (nat_lit 72) (Value.type "reversed"), de P "set" (nat_lit 73) (Value.type "set"), de P "slice" (nat_lit 74) (Value.type "slice"), de P "staticmethod" (nat_lit 75) (Value.type "staticmethod"), de P "str" (nat_lit 76) (Value.type "str"), de P "super" (nat_lit 77) (Value.type "super"), de P "tuple" (nat_lit 78) (Value.type "tuple"), de P "type" (nat_lit 79) (Value.type "type"), de P "zip" (nat_lit 80) (Value.type "zip"), de P "__debug__" (nat_lit 81) (Value.bool true), de P "BaseException" (nat_lit 82) (Value.type "BaseException"), de P "BaseExceptionGroup" (nat_lit 83) (Value.type "BaseExceptionGroup"), de P "Exception" (nat_lit 84) (Value.type "Exception"), de P "GeneratorExit" (nat_lit 85) (Value.type "GeneratorExit"), de P "KeyboardInterrupt" (nat_lit 86) (Value.type "KeyboardInterrupt"), de P "SystemExit" (nat_lit 87) (Value.type "SystemExit"), de P "ArithmeticError" (nat_lit 88) (Value.type "ArithmeticError"), de P "AssertionError" (nat_lit 89) (Value.type "AssertionError"), de P "AttributeError" (nat_lit 90) (Value.type "AttributeError"), de P "BufferError" (nat_lit 91) (Value.type "BufferError"), de P "EOFError" (nat_lit 92) (Value.type "EOFError"), de P "ImportError" (nat_lit 93) (Value.type "ImportError"), de P "LookupError" (nat_lit 94) (Value.type "LookupError"), de P "MemoryError" (nat_lit 95) (Value.type "MemoryError"), de P "NameError" (nat_lit 96) (Value.type "NameError"), de P "OSError" (nat_lit 97) (Value.type "OSError"), de P "ReferenceError" (nat_lit 98) (Value.type "ReferenceError"), de P "RuntimeError" (nat_lit 99) (Value.type "RuntimeError"), de P "StopAsyncIteration" (nat_lit 100) (Value.type "StopAsyncIteration"), de P "StopIteration" (nat_lit 101) (Value.type "StopIteration"), de P "SyntaxError" (nat_lit 102) (Value.type "SyntaxError"), de P "SystemError" (nat_lit 103) (Value.type "SystemError"), de P "TypeError" (nat_lit 104) (Value.type "TypeError"), de P "ValueError" (nat_lit 105) (Value.type "ValueError"), de P "Warning" (nat_lit 106) (Value.type "Warning"), de P "FloatingPointError" (nat_lit 107) (Value.type "FloatingPointError"), de P "OverflowError" (nat_lit 108) (Value.type "OverflowError"), de P "ZeroDivisionError" (nat_lit 109) (Value.type "ZeroDivisionError"), de P "BytesWarning" (nat_lit 110) (Value.type "BytesWarning"), de P "DeprecationWarning" (nat_lit 111) (Value.type "DeprecationWarning"), de P "EncodingWarning" (nat_lit 112) (Value.type "EncodingWarning"), de P "FutureWarning" (nat_lit 113) (Value.type "FutureWarning"), de P "ImportWarning" (nat_lit 114) (Value.type "ImportWarning"), de P "PendingDeprecationWarning" (nat_lit 115) (Value.type "PendingDeprecationWarning"), de P "ResourceWarning" (nat_lit 116) (Value.type "ResourceWarning"), de P "RuntimeWarning" (nat_lit 117) (Value.type "RuntimeWarning"), de P "SyntaxWarning" (nat_lit 118) (Value.type "SyntaxWarning"), de P "UnicodeWarning" (nat_lit 119) (Value.type "UnicodeWarning"), de P "UserWarning" (nat_lit 120) (Value.type "UserWarning"), de P "BlockingIOError" (nat_lit 121) (Value.type "BlockingIOError"), de P "ChildProcessError" (nat_lit 122) (Value.type "ChildProcessError"), de P "ConnectionError" (nat_lit 123) (Value.type "ConnectionError"), de P "FileExistsError" (nat_lit 124) (Value.type "FileExistsError"), de P "FileNotFoundError" (nat_lit 125) (Value.type "FileNotFoundError"), de P "InterruptedError" (nat_lit 126) (Value.type "InterruptedError"), de P "IsADirectoryError" (nat_lit 127) (Value.type "IsADirectoryError"), de P "NotADirectoryError" (nat_lit 128) (Value.type "NotADirectoryError"), de P "PermissionError" (nat_lit 129) (Value.type "PermissionError"), de P "ProcessLookupError" (nat_lit 130) (Value.type "ProcessLookupError"), de P "TimeoutError" (nat_lit 131) (Value.type "TimeoutError"), de P "IndentationError" (nat_lit 132) (Value.type "IndentationError"), de P "_IncompleteInputError" (nat_lit 133) (Value.type "_IncompleteInputError"), de P "IndexError" (nat_lit 134) (Value.type "IndexError"), de P "KeyError" (nat_lit 135) (Value.type "KeyError"), de P "ModuleNotFoundError" (nat_lit 136) (Value.type "ModuleNotFoundError"), de P "NotImplementedError" (nat_lit 137) (Value.type "NotImplementedError"), de P "PythonFinalizationError" (nat_lit 138) (Value.type "PythonFinalizationError"), de P "RecursionError" (nat_lit 139) (Value.type "RecursionError"), de P "UnboundLocalError" (nat_lit 140) (Value.type "UnboundLocalError"), de P "UnicodeError" (nat_lit 141) (Value.type "UnicodeError"), de P "BrokenPipeError" (nat_lit 142) (Value.type "BrokenPipeError"), de P "ConnectionAbortedError" (nat_lit 143) (Value.type "ConnectionAbortedError"), de P "ConnectionRefusedError" (nat_lit 144) (Value.type "ConnectionRefusedError"), de P "ConnectionResetError" (nat_lit 145) (Value.type "ConnectionResetError"), de P "TabError" (nat_lit 146) (Value.type "TabError"), de P "UnicodeDecodeError" (nat_lit 147) (Value.type "UnicodeDecodeError"), de P "UnicodeEncodeError" (nat_lit 148) (Value.type "UnicodeEncodeError"), de P "UnicodeTranslateError" (nat_lit 149) (Value.type "UnicodeTranslateError"), de P "ExceptionGroup" (nat_lit 150) (Value.type "ExceptionGroup"), de P "EnvironmentError" (nat_lit 151) (Value.type "OSError"), de P "IOError" (nat_lit 152) (Value.type "OSError"), de P "open" (nat_lit 153) (Value.builtin "open"), de P "quit" (nat_lit 154) (Value.builtin "builtins.quit#opaque"), de P "exit" (nat_lit 155) (Value.builtin "builtins.exit#opaque"), de P "copyright" (nat_lit 156) (Value.builtin "builtins.copyright#opaque"), de P "credits" (nat_lit 157) (Value.builtin "builtins.credits#opaque"), de P "license" (nat_lit 158) (Value.builtin "builtins.license#opaque"), de P "help" (nat_lit 159) (Value.builtin "builtins.help#opaque")] 159 },
  { cls := Value.type "dict", data := Data.dict #[de P "builtins" (nat_lit 162) (rV (nat_lit 4)), de P "__main__" (nat_lit 163) (rV (nat_lit 5)), de P "_sre" (nat_lit 244) (rV (nat_lit 12))] 3 },
  { cls := Value.none, data := Data.dict #[{ hash := PyData.keyHash P ({ cps := #[105, 109, 112, 111, 114, 116, 46, 108, 111, 97, 100, 101, 100, 46, 95, 115, 114, 101] }), key := Value.str ({ cps := #[105, 109, 112, 111, 114, 116, 46, 108, 111, 97, 100, 101, 100, 46, 95, 115, 114, 101] }) 183, val := Value.bool true }, de P "class._frozen_importlib.BuiltinImporter" (nat_lit 185) (rV (nat_lit 14)), { hash := PyData.keyHash P ({ cps := #[119, 97, 116, 99, 104, 101, 100, 46, 105, 109, 112, 111, 114, 116] }), key := Value.str ({ cps := #[119, 97, 116, 99, 104, 101, 100, 46, 105, 109, 112, 111, 114, 116] }) 206, val := rV (nat_lit 18) }, de P "class._frozen_importlib.ModuleSpec" (nat_lit 216) (rV (nat_lit 22)), de P "sys.modules.booked-epoch" (nat_lit 245) (Value.int 3 0), { hash := PyData.keyHash P ({ cps := #[105, 109, 112, 111, 114, 116, 46, 108, 97, 116, 101, 114, 45, 108, 97, 105, 100, 46, 95, 115, 114, 101] }), key := Value.str ({ cps := #[105, 109, 112, 111, 114, 116, 46, 108, 97, 116, 101, 114, 45, 108, 97, 105, 100, 46, 95, 115, 114, 101] }) 270, val := Value.bool true }, de P "watched.library" (nat_lit 272) (rV (nat_lit 27)), de P "watched.library-objects" (nat_lit 0) (Value.str ({ cps := #[12] }) 0), de P "watched.library-deep._sre" (nat_lit 273) (Value.str ({ cps := #[4, 0, 0, 11, 4, 0, 0, 11, 4, 0, 0, 3, 4, 0, 0, 11, 8, 4, 100, 105, 99, 116, 2] }) 0)] 9 },
  { cls := Value.type "dict", data := Data.dict #[{ hash := PyData.keyHash P (Str.ofString "__name__"), key := Value.str (Str.ofString "__name__") 165, val := Value.str (Str.ofString "__main__") 164 }, { hash := PyData.keyHash P (Str.ofString "__doc__"), key := Value.str (Str.ofString "__doc__") 166, val := Value.none }, { hash := PyData.keyHash P (Str.ofString "__package__"), key := Value.str (Str.ofString "__package__") 167, val := Value.none }, { hash := PyData.keyHash P (Str.ofString "__loader__"), key := Value.str (Str.ofString "__loader__") 168, val := Value.builtin "__main__.__loader__#opaque" }, { hash := PyData.keyHash P (Str.ofString "__spec__"), key := Value.str (Str.ofString "__spec__") 169, val := Value.none }, { hash := PyData.keyHash P (Str.ofString "__annotations__"), key := Value.str (Str.ofString "__annotations__") 170, val := Value.ref 6 }, { hash := PyData.keyHash P (Str.ofString "__builtins__"), key := Value.str (Str.ofString "__builtins__") 171, val := Value.ref 4 }, { hash := PyData.keyHash P (Str.ofString "__file__"), key := Value.str (Str.ofString "__file__") 173, val := Value.str (Str.ofString "/claim/cut.py") 172 }, { hash := PyData.keyHash P (Str.ofString "__cached__"), key := Value.str (Str.ofString "__cached__") 174, val := Value.none }, { hash := PyData.keyHash P (Str.ofString "_sre"), key := Value.str (Str.ofString "_sre") 275, val := Value.ref 12 }] 10 },
  { cls := Value.type "module", dict := some 0 },
  { cls := Value.type "module", dict := some 3 },
  { cls := Value.type "dict", data := Data.dict #[] },
  { cls := Value.type "tuple", data := Data.seq #[] },
  { cls := Value.none, data := Data.fields #[] },
  { cls := Value.type "code", data := Data.fields #[sV "<module>" (nat_lit 176), sV "<module>" (nat_lit 177), sV "/claim/cut.py" (nat_lit 178), Value.int 1 0, Value.int 0 0, Value.int 0 0, Value.int 0 0, Value.int 0 0, rV (nat_lit 7), Value.bool false, Value.int 175 0, rV (nat_lit 8), Value.none, Value.none, Value.none, Value.none, Value.int 179 0, Value.int 1 0, sV "/claim/cut.py" (nat_lit 180)] },
  { cls := Value.type "frame", slots := #[some (rV (nat_lit 9)), some (rV (nat_lit 3)), some (rV (nat_lit 3)), none, some (sV "__main__" (nat_lit 164)), none, some (rV (nat_lit 0))] },
  { cls := Value.type "dict", data := Data.dict #[de P "__name__" (nat_lit 247) (sV "_sre" (nat_lit 246)), de P "__doc__" (nat_lit 248) Value.none, de P "__package__" (nat_lit 250) (sV "" (nat_lit 249)), de P "__loader__" (nat_lit 251) (Value.builtin (fenceId (Str.ofString "_sre") (Str.ofString "__loader__"))), de P "__spec__" (nat_lit 252) (Value.builtin (fenceId (Str.ofString "_sre") (Str.ofString "__spec__"))), de P "compile" (nat_lit 253) (Value.builtin "_sre.compile"), de P "template" (nat_lit 254) (Value.builtin (fenceId (Str.ofString "_sre") (Str.ofString "template"))), de P "getcodesize" (nat_lit 255) (Value.builtin (fenceId (Str.ofString "_sre") (Str.ofString "getcodesize"))), de P "ascii_iscased" (nat_lit 256) (Value.builtin (fenceId (Str.ofString "_sre") (Str.ofString "ascii_iscased"))), de P "unicode_iscased" (nat_lit 257) (Value.builtin (fenceId (Str.ofString "_sre") (Str.ofString "unicode_iscased"))), de P "ascii_tolower" (nat_lit 258) (Value.builtin (fenceId (Str.ofString "_sre") (Str.ofString "ascii_tolower"))), de P "unicode_tolower" (nat_lit 259) (Value.builtin (fenceId (Str.ofString "_sre") (Str.ofString "unicode_tolower"))), de P "MAGIC" (nat_lit 261) (Value.int 20230612 260), de P "CODESIZE" (nat_lit 263) (Value.int 4 262), de P "MAXREPEAT" (nat_lit 265) (Value.int 4294967295 264), de P "MAXGROUPS" (nat_lit 267) (Value.int 1073741823 266), de P "copyright" (nat_lit 269) (sV " SRE 2.2.2 Copyright (c) 1997-2002 by Secret Labs AB " (nat_lit 268))] 17 },
  { cls := Value.type "module", dict := some 11 },
  { cls := Value.type "dict", data := Data.dict #[de P "__module__" (nat_lit 189) (sV "_frozen_importlib" (nat_lit 186)), de P "__firstlineno__" (nat_lit 190) (Value.int 971 187), de P "__doc__" (nat_lit 191) (Value.builtin "_frozen_importlib.BuiltinImporter.__doc__:str#opaque"), de P "_ORIGIN" (nat_lit 192) (sV "built-in" (nat_lit 188)), de P "find_spec" (nat_lit 193) (Value.builtin "_frozen_importlib.BuiltinImporter.find_spec#opaque"), de P "create_module" (nat_lit 194) (Value.builtin "_frozen_importlib.BuiltinImporter.create_module#opaque"), de P "exec_module" (nat_lit 195) (Value.builtin "_frozen_importlib.BuiltinImporter.exec_module#opaque"), de P "get_code" (nat_lit 196) (Value.builtin "_frozen_importlib.BuiltinImporter.get_code#opaque"), de P "get_source" (nat_lit 197) (Value.builtin "_frozen_importlib.BuiltinImporter.get_source#opaque"), de P "is_package" (nat_lit 198) (Value.builtin "_frozen_importlib.BuiltinImporter.is_package#opaque"), de P "load_module" (nat_lit 199) (Value.builtin "_frozen_importlib.BuiltinImporter.load_module#opaque"), de P "__static_attributes__" (nat_lit 200) (rV (nat_lit 15)), de P "__dict__" (nat_lit 202) (rV (nat_lit 16)), de P "__weakref__" (nat_lit 204) (rV (nat_lit 17))] 14 },
  { cls := Value.type "type", data := Data.cls { name := Str.ofString "BuiltinImporter", bases := [Value.type "object"], mro := [rV (nat_lit 14), Value.type "object"], ns := 13, qualname := Str.ofString "BuiltinImporter" } },
  { cls := Value.type "tuple", data := Data.seq #[] },
  { cls := Value.type "getset_descriptor", data := Data.fields #[sV "__dict__" (nat_lit 201), rV (nat_lit 14), Value.builtin "function.__dict__", Value.builtin "function.__dict__#set"] },
  { cls := Value.type "getset_descriptor", data := Data.fields #[sV "__weakref__" (nat_lit 203), rV (nat_lit 14), Value.builtin "ExceptionGroup.__weakref__", Value.none] },
  { cls := Value.none, data := Data.seq #[Value.int 13 0, Value.str ({ cps := #[6, 189, 10, 95, 95, 109, 111, 100, 117, 108, 101, 95, 95, 6, 186, 17, 95, 102, 114, 111, 122, 101, 110, 95, 105, 109, 112, 111, 114, 116, 108, 105, 98, 6, 190, 15, 95, 95, 102, 105, 114, 115, 116, 108, 105, 110, 101, 110, 111, 95, 95, 4, 187, 0, 971, 6, 191, 7, 95, 95, 100, 111, 99, 95, 95, 9, 52, 95, 102, 114, 111, 122, 101, 110, 95, 105, 109, 112, 111, 114, 116, 108, 105, 98, 46, 66, 117, 105, 108, 116, 105, 110, 73, 109, 112, 111, 114, 116, 101, 114, 46, 95, 95, 100, 111, 99, 95, 95, 58, 115, 116, 114, 35, 111, 112, 97, 113, 117, 101, 6, 192, 7, 95, 79, 82, 73, 71, 73, 78, 6, 188, 8, 98, 117, 105, 108, 116, 45, 105, 110, 6, 193, 9, 102, 105, 110, 100, 95, 115, 112, 101, 99, 9, 50, 95, 102, 114, 111, 122, 101, 110, 95, 105, 109, 112, 111, 114, 116, 108, 105, 98, 46, 66, 117, 105, 108, 116, 105, 110, 73, 109, 112, 111, 114, 116, 101, 114, 46, 102, 105, 110, 100, 95, 115, 112, 101, 99, 35, 111, 112, 97, 113, 117, 101, 6, 194, 13, 99, 114, 101, 97, 116, 101, 95, 109, 111, 100, 117, 108, 101, 9, 54, 95, 102, 114, 111, 122, 101, 110, 95, 105, 109, 112, 111, 114, 116, 108, 105, 98, 46, 66, 117, 105, 108, 116, 105, 110, 73, 109, 112, 111, 114, 116, 101, 114, 46, 99, 114, 101, 97, 116, 101, 95, 109, 111, 100, 117, 108, 101, 35, 111, 112, 97, 113, 117, 101, 6, 195, 11, 101, 120, 101, 99, 95, 109, 111, 100, 117, 108, 101, 9, 52, 95, 102, 114, 111, 122, 101, 110, 95, 105, 109, 112, 111, 114, 116, 108, 105, 98, 46, 66, 117, 105, 108, 116, 105, 110, 73, 109, 112, 111, 114, 116, 101, 114, 46, 101, 120, 101, 99, 95, 109, 111, 100, 117, 108, 101, 35, 111, 112, 97, 113, 117, 101, 6, 196, 8, 103, 101, 116, 95, 99, 111, 100, 101, 9, 49, 95, 102, 114, 111, 122, 101, 110, 95, 105, 109, 112, 111, 114, 116, 108, 105, 98, 46, 66, 117, 105, 108, 116, 105, 110, 73, 109, 112, 111, 114, 116, 101, 114, 46, 103, 101, 116, 95, 99, 111, 100, 101, 35, 111, 112, 97, 113, 117, 101, 6, 197, 10, 103, 101, 116, 95, 115, 111, 117, 114, 99, 101, 9, 51, 95, 102, 114, 111, 122, 101, 110, 95, 105, 109, 112, 111, 114, 116, 108, 105, 98, 46, 66, 117, 105, 108, 116, 105, 110, 73, 109, 112, 111, 114, 116, 101, 114, 46, 103, 101, 116, 95, 115, 111, 117, 114, 99, 101, 35, 111, 112, 97, 113, 117, 101, 6, 198, 10, 105, 115, 95, 112, 97, 99, 107, 97, 103, 101, 9, 51, 95, 102, 114, 111, 122, 101, 110, 95, 105, 109, 112, 111, 114, 116, 108, 105, 98, 46, 66, 117, 105, 108, 116, 105, 110, 73, 109, 112, 111, 114, 116, 101, 114, 46, 105, 115, 95, 112, 97, 99, 107, 97, 103, 101, 35, 111, 112, 97, 113, 117, 101, 6, 199, 11, 108, 111, 97, 100, 95, 109, 111, 100, 117, 108, 101, 9, 52, 95, 102, 114, 111, 122, 101, 110, 95, 105, 109, 112, 111, 114, 116, 108, 105, 98, 46, 66, 117, 105, 108, 116, 105, 110, 73, 109, 112, 111, 114, 116, 101, 114, 46, 108, 111, 97, 100, 95, 109, 111, 100, 117, 108, 101, 35, 111, 112, 97, 113, 117, 101, 6, 200, 21, 95, 95, 115, 116, 97, 116, 105, 99, 95, 97, 116, 116, 114, 105, 98, 117, 116, 101, 115, 95, 95, 4, 0, 0, 15, 6, 202, 8, 95, 95, 100, 105, 99, 116, 95, 95, 4, 0, 0, 16, 6, 204, 11, 95, 95, 119, 101, 97, 107, 114, 101, 102, 95, 95, 4, 0, 0, 17] }) 0, Value.bool true, Value.bool true, sV "" (nat_lit 205), Value.int 21 0, Value.str ({ cps := #[6, 227, 10, 95, 95, 109, 111, 100, 117, 108, 101, 95, 95, 6, 217, 17, 95, 102, 114, 111, 122, 101, 110, 95, 105, 109, 112, 111, 114, 116, 108, 105, 98, 6, 228, 15, 95, 95, 102, 105, 114, 115, 116, 108, 105, 110, 101, 110, 111, 95, 95, 4, 218, 0, 562, 6, 229, 7, 95, 95, 100, 111, 99, 95, 95, 9, 47, 95, 102, 114, 111, 122, 101, 110, 95, 105, 109, 112, 111, 114, 116, 108, 105, 98, 46, 77, 111, 100, 117, 108, 101, 83, 112, 101, 99, 46, 95, 95, 100, 111, 99, 95, 95, 58, 115, 116, 114, 35, 111, 112, 97, 113, 117, 101, 6, 230, 8, 95, 95, 105, 110, 105, 116, 95, 95, 9, 44, 95, 102, 114, 111, 122, 101, 110, 95, 105, 109, 112, 111, 114, 116, 108, 105, 98, 46, 77, 111, 100, 117, 108, 101, 83, 112, 101, 99, 46, 95, 95, 105, 110, 105, 116, 95, 95, 35, 111, 112, 97, 113, 117, 101, 6, 231, 8, 95, 95, 114, 101, 112, 114, 95, 95, 9, 44, 95, 102, 114, 111, 122, 101, 110, 95, 105, 109, 112, 111, 114, 116, 108, 105, 98, 46, 77, 111, 100, 117, 108, 101, 83, 112, 101, 99, 46, 95, 95, 114, 101, 112, 114, 95, 95, 35, 111, 112, 97, 113, 117, 101, 6, 232, 6, 95, 95, 101, 113, 95, 95, 9, 42, 95, 102, 114, 111, 122, 101, 110, 95, 105, 109, 112, 111, 114, 116, 108, 105, 98, 46, 77, 111, 100, 117, 108, 101, 83, 112, 101, 99, 46, 95, 95, 101, 113, 95, 95, 35, 111, 112, 97, 113, 117, 101, 6, 233, 6, 99, 97, 99, 104, 101, 100, 9, 42, 95, 102, 114, 111, 122, 101, 110, 95, 105, 109, 112, 111, 114, 116, 108, 105, 98, 46, 77, 111, 100, 117, 108, 101, 83, 112, 101, 99, 46, 99, 97, 99, 104, 101, 100, 35, 111, 112, 97, 113, 117, 101, 6, 234, 6, 112, 97, 114, 101, 110, 116, 9, 42, 95, 102, 114, 111, 122, 101, 110, 95, 105, 109, 112, 111, 114, 116, 108, 105, 98, 46, 77, 111, 100, 117, 108, 101, 83, 112, 101, 99, 46, 112, 97, 114, 101, 110, 116, 35, 111, 112, 97, 113, 117, 101, 6, 235, 12, 104, 97, 115, 95, 108, 111, 99, 97, 116, 105, 111, 110, 9, 48, 95, 102, 114, 111, 122, 101, 110, 95, 105, 109, 112, 111, 114, 116, 108, 105, 98, 46, 77, 111, 100, 117, 108, 101, 83, 112, 101, 99, 46, 104, 97, 115, 95, 108, 111, 99, 97, 116, 105, 111, 110, 35, 111, 112, 97, 113, 117, 101, 6, 236, 21, 95, 95, 115, 116, 97, 116, 105, 99, 95, 97, 116, 116, 114, 105, 98, 117, 116, 101, 115, 95, 95, 4, 0, 0, 23, 6, 238, 8, 95, 95, 100, 105, 99, 116, 95, 95, 4, 0, 0, 24, 6, 240, 11, 95, 95, 119, 101, 97, 107, 114, 101, 102, 95, 95, 4, 0, 0, 25, 6, 241, 8, 95, 95, 104, 97, 115, 104, 95, 95, 0] }) 0, Value.bool true, Value.bool true, sV "" (nat_lit 242)] 1 },
  { cls := Value.type "list", data := Data.seq #[] },
  { cls := Value.type "dict", data := Data.dict #[de P "name" (nat_lit 208) (sV "_sre" (nat_lit 207)), de P "loader" (nat_lit 209) (rV (nat_lit 14)), de P "origin" (nat_lit 210) (sV "built-in" (nat_lit 184)), de P "loader_state" (nat_lit 211) Value.none, de P "submodule_search_locations" (nat_lit 212) Value.none, de P "_uninitialized_submodules" (nat_lit 213) (rV (nat_lit 19)), de P "_set_fileattr" (nat_lit 214) (Value.bool false), de P "_cached" (nat_lit 215) Value.none, de P "_initializing" (nat_lit 243) (Value.bool false)] 9 },
  { cls := Value.type "dict", data := Data.dict #[de P "__module__" (nat_lit 227) (sV "_frozen_importlib" (nat_lit 217)), de P "__firstlineno__" (nat_lit 228) (Value.int 562 218), de P "__doc__" (nat_lit 229) (Value.builtin "_frozen_importlib.ModuleSpec.__doc__:str#opaque"), de P "__init__" (nat_lit 230) (Value.builtin "_frozen_importlib.ModuleSpec.__init__#opaque"), de P "__repr__" (nat_lit 231) (Value.builtin "_frozen_importlib.ModuleSpec.__repr__#opaque"), de P "__eq__" (nat_lit 232) (Value.builtin "_frozen_importlib.ModuleSpec.__eq__#opaque"), de P "cached" (nat_lit 233) (Value.builtin "_frozen_importlib.ModuleSpec.cached#opaque"), de P "parent" (nat_lit 234) (Value.builtin "_frozen_importlib.ModuleSpec.parent#opaque"), de P "has_location" (nat_lit 235) (Value.builtin "_frozen_importlib.ModuleSpec.has_location#opaque"), de P "__static_attributes__" (nat_lit 236) (rV (nat_lit 23)), de P "__dict__" (nat_lit 238) (rV (nat_lit 24)), de P "__weakref__" (nat_lit 240) (rV (nat_lit 25)), de P "__hash__" (nat_lit 241) Value.none] 13 },
  { cls := Value.type "type", data := Data.cls { name := Str.ofString "ModuleSpec", bases := [Value.type "object"], mro := [rV (nat_lit 22), Value.type "object"], ns := 21, qualname := Str.ofString "ModuleSpec" } },
  { cls := Value.type "tuple", data := Data.seq #[sV "_cached" (nat_lit 219), sV "_set_fileattr" (nat_lit 220), sV "_uninitialized_submodules" (nat_lit 221), sV "loader" (nat_lit 222), sV "loader_state" (nat_lit 223), sV "name" (nat_lit 224), sV "origin" (nat_lit 225), sV "submodule_search_locations" (nat_lit 226)] },
  { cls := Value.type "getset_descriptor", data := Data.fields #[sV "__dict__" (nat_lit 237), rV (nat_lit 22), Value.builtin "function.__dict__", Value.builtin "function.__dict__#set"] },
  { cls := Value.type "getset_descriptor", data := Data.fields #[sV "__weakref__" (nat_lit 239), rV (nat_lit 22), Value.builtin "ExceptionGroup.__weakref__", Value.none] },
  { cls := rV (nat_lit 22), dict := some 20 },
  { cls := Value.none, data := Data.seq #[Value.int 11 0, Value.str { cps := #[6, 247, 8, 95, 95, 110, 97, 109, 101, 95, 95, 6, 246, 4, 95, 115, 114, 101, 6, 248, 7, 95, 95, 100, 111, 99, 95, 95, 0, 6, 250, 11, 95, 95, 112, 97, 99, 107, 97, 103, 101, 95, 95, 6, 249, 0, 6, 251, 10, 95, 95, 108, 111, 97, 100, 101, 114, 95, 95, 4, 0, 0, 14, 6, 252, 8, 95, 95, 115, 112, 101, 99, 95, 95, 4, 0, 0, 26, 6, 253, 7, 99, 111, 109, 112, 105, 108, 101, 9, 12, 95, 115, 114, 101, 46, 99, 111, 109, 112, 105, 108, 101, 6, 254, 8, 116, 101, 109, 112, 108, 97, 116, 101, 9, 13, 95, 115, 114, 101, 46, 116, 101, 109, 112, 108, 97, 116, 101, 6, 255, 11, 103, 101, 116, 99, 111, 100, 101, 115, 105, 122, 101, 9, 16, 95, 115, 114, 101, 46, 103, 101, 116, 99, 111, 100, 101, 115, 105, 122, 101, 6, 256, 13, 97, 115, 99, 105, 105, 95, 105, 115, 99, 97, 115, 101, 100, 9, 18, 95, 115, 114, 101, 46, 97, 115, 99, 105, 105, 95, 105, 115, 99, 97, 115, 101, 100, 6, 257, 15, 117, 110, 105, 99, 111, 100, 101, 95, 105, 115, 99, 97, 115, 101, 100, 9, 20, 95, 115, 114, 101, 46, 117, 110, 105, 99, 111, 100, 101, 95, 105, 115, 99, 97, 115, 101, 100, 6, 258, 13, 97, 115, 99, 105, 105, 95, 116, 111, 108, 111, 119, 101, 114, 9, 18, 95, 115, 114, 101, 46, 97, 115, 99, 105, 105, 95, 116, 111, 108, 111, 119, 101, 114, 6, 259, 15, 117, 110, 105, 99, 111, 100, 101, 95, 116, 111, 108, 111, 119, 101, 114, 9, 20, 95, 115, 114, 101, 46, 117, 110, 105, 99, 111, 100, 101, 95, 116, 111, 108, 111, 119, 101, 114, 6, 261, 5, 77, 65, 71, 73, 67, 4, 260, 0, 20230612, 6, 263, 8, 67, 79, 68, 69, 83, 73, 90, 69, 4, 262, 0, 4, 6, 265, 9, 77, 65, 88, 82, 69, 80, 69, 65, 84, 4, 264, 0, 4294967295, 6, 267, 9, 77, 65, 88, 71, 82, 79, 85, 80, 83, 4, 266, 0, 1073741823, 6, 269, 9, 99, 111, 112, 121, 114, 105, 103, 104, 116, 6, 268, 53, 32, 83, 82, 69, 32, 50, 46, 50, 46, 50, 32, 67, 111, 112, 121, 114, 105, 103, 104, 116, 32, 40, 99, 41, 32, 49, 57, 57, 55, 45, 50, 48, 48, 50, 32, 98, 121, 32, 83, 101, 99, 114, 101, 116, 32, 76, 97, 98, 115, 32, 65, 66, 32] } 0, Value.bool true, Value.bool false, sV "_sre" (nat_lit 271)] }] } }
noncomputable def H1 (P : Params) : Heap := { objs := { toList := [
  { cls := Value.type "dict", data := Data.dict #[de P "__name__" (nat_lit 1) (sV "builtins" (nat_lit 160)), de P "__doc__" (nat_lit 2) (Value.builtin "builtins.__doc__:str#opaque"), de P "__package__" (nat_lit 3) (Value.builtin "builtins.__package__:str#opaque"), de P "__loader__" (nat_lit 4) (Value.builtin "builtins.__loader__:shared#opaque"), de P "__spec__" (nat_lit 5) (Value.builtin "builtins.__spec__#opaque"), de P "__build_class__" (nat_lit 6) (Value.builtin "__build_class__"), de P "__import__" (nat_lit 7) (Value.builtin "__import__"), de P "abs" (nat_lit 8) (Value.builtin "abs"), de P "all" (nat_lit 9) (Value.builtin "all"), de P "any" (nat_lit 10) (Value.builtin "any"), de P "ascii" (nat_lit 11) (Value.builtin "ascii"), de P "bin" (nat_lit 12) (Value.builtin "bin"), de P "breakpoint" (nat_lit 13) (Value.builtin "breakpoint"), de P "callable" (nat_lit 14) (Value.builtin "callable"), de P "chr" (nat_lit 15) (Value.builtin "chr"), de P "compile" (nat_lit 16) (Value.builtin "compile"), de P "delattr" (nat_lit 17) (Value.builtin "delattr"), de P "dir" (nat_lit 18) (Value.builtin "dir"), de P "divmod" (nat_lit 19) (Value.builtin "divmod"), de P "eval" (nat_lit 20) (Value.builtin "eval"), de P "exec" (nat_lit 21) (Value.builtin "exec"), de P "format" (nat_lit 22) (Value.builtin "format"), de P "getattr" (nat_lit 23) (Value.builtin "getattr"), de P "globals" (nat_lit 24) (Value.builtin "globals"), de P "hasattr" (nat_lit 25) (Value.builtin "hasattr"), de P "hash" (nat_lit 26) (Value.builtin "hash"), de P "hex" (nat_lit 27) (Value.builtin "hex"), de P "id" (nat_lit 28) (Value.builtin "id"), de P "input" (nat_lit 29) (Value.builtin "input"), de P "isinstance" (nat_lit 30) (Value.builtin "isinstance"), de P "issubclass" (nat_lit 31) (Value.builtin "issubclass"), de P "iter" (nat_lit 32) (Value.builtin "iter"), de P "aiter" (nat_lit 33) (Value.builtin "aiter"), de P "len" (nat_lit 34) (Value.builtin "len"), de P "locals" (nat_lit 35) (Value.builtin "locals"), de P "max" (nat_lit 36) (Value.builtin "max"), de P "min" (nat_lit 37) (Value.builtin "min"), de P "next" (nat_lit 38) (Value.builtin "next"), de P "anext" (nat_lit 39) (Value.builtin "anext"), de P "oct" (nat_lit 40) (Value.builtin "oct"), de P "ord" (nat_lit 41) (Value.builtin "ord"), de P "pow" (nat_lit 42) (Value.builtin "pow"), de P "print" (nat_lit 43) (Value.builtin "print"), de P "repr" (nat_lit 44) (Value.builtin "repr"), de P "round" (nat_lit 45) (Value.builtin "round"), de P "setattr" (nat_lit 46) (Value.builtin "setattr"), de P "sorted" (nat_lit 47) (Value.builtin "sorted"), de P "sum" (nat_lit 48) (Value.builtin "sum"), de P "vars" (nat_lit 49) (Value.builtin "vars"), de P "None" (nat_lit 50) Value.none, de P "Ellipsis" (nat_lit 51) Value.ellipsis, de P "NotImplemented" (nat_lit 52) Value.notImplemented, de P "False" (nat_lit 53) (Value.bool false), de P "True" (nat_lit 54) (Value.bool true), de P "bool" (nat_lit 55) (Value.type "bool"), de P "memoryview" (nat_lit 56) (Value.type "memoryview"), de P "bytearray" (nat_lit 57) (Value.type "bytearray"), de P "bytes" (nat_lit 58) (Value.type "bytes"), de P "classmethod" (nat_lit 59) (Value.type "classmethod"), de P "complex" (nat_lit 60) (Value.type "complex"), de P "dict" (nat_lit 61) (Value.type "dict"), de P "enumerate" (nat_lit 62) (Value.type "enumerate"), de P "filter" (nat_lit 63) (Value.type "filter"), de P "float" (nat_lit 64) (Value.type "float"), de P "frozenset" (nat_lit 65) (Value.type "frozenset"), de P "property" (nat_lit 66) (Value.type "property"), de P "int" (nat_lit 67) (Value.type "int"), de P "list" (nat_lit 68) (Value.type "list"), de P "map" (nat_lit 69) (Value.type "map"), de P "object" (nat_lit 70) (Value.type "object"), de P "range" (nat_lit 71) (Value.type "range"), de P "reversed" (nat_lit 72) (Value.type "reversed"), de P "set" (nat_lit 73) (Value.type "set"), de P "slice" (nat_lit 74) (Value.type "slice"), de P "staticmethod" (nat_lit 75) (Value.type "staticmethod"), de P "str" (nat_lit 76) (Value.type "str"), de P "super" (nat_lit 77) (Value.type "super"), de P "tuple" (nat_lit 78) (Value.type "tuple"), de P "type" (nat_lit 79) (Value.type "type"), de P "zip" (nat_lit 80) (Value.type "zip"), de P "__debug__" (nat_lit 81) (Value.bool true), de P "BaseException" (nat_lit 82) (Value.type "BaseException"), de P "BaseExceptionGroup" (nat_lit 83) (Value.type "BaseExceptionGroup"), de P "Exception" (nat_lit 84) (Value.type "Exception"), de P "GeneratorExit" (nat_lit 85) (Value.type "GeneratorExit"), de P "KeyboardInterrupt" (nat_lit 86) (Value.type "KeyboardInterrupt"), de P "SystemExit" (nat_lit 87) (Value.type "SystemExit"), de P "ArithmeticError" (nat_lit 88) (Value.type "ArithmeticError"), de P "AssertionError" (nat_lit 89) (Value.type "AssertionError"), de P "AttributeError" (nat_lit 90) (Value.type "AttributeError"), de P "BufferError" (nat_lit 91) (Value.type "BufferError"), de P "EOFError" (nat_lit 92) (Value.type "EOFError"), de P "ImportError" (nat_lit 93) (Value.type "ImportError"), de P "LookupError" (nat_lit 94) (Value.type "LookupError"), de P "MemoryError" (nat_lit 95) (Value.type "MemoryError"), de P "NameError" (nat_lit 96) (Value.type "NameError"), de P "OSError" (nat_lit 97) (Value.type "OSError"), de P "ReferenceError" (nat_lit 98) (Value.type "ReferenceError"), de P "RuntimeError" (nat_lit 99) (Value.type "RuntimeError"), de P "StopAsyncIteration" (nat_lit 100) (Value.type "StopAsyncIteration"), de P "StopIteration" (nat_lit 101) (Value.type "StopIteration"), de P "SyntaxError" (nat_lit 102) (Value.type "SyntaxError"), de P "SystemError" (nat_lit 103) (Value.type "SystemError"), de P "TypeError" (nat_lit 104) (Value.type "TypeError"), de P "ValueError" (nat_lit 105) (Value.type "ValueError"), de P "Warning" (nat_lit 106) (Value.type "Warning"), de P "FloatingPointError" (nat_lit 107) (Value.type "FloatingPointError"), de P "OverflowError" (nat_lit 108) (Value.type "OverflowError"), de P "ZeroDivisionError" (nat_lit 109) (Value.type "ZeroDivisionError"), de P "BytesWarning" (nat_lit 110) (Value.type "BytesWarning"), de P "DeprecationWarning" (nat_lit 111) (Value.type "DeprecationWarning"), de P "EncodingWarning" (nat_lit 112) (Value.type "EncodingWarning"), de P "FutureWarning" (nat_lit 113) (Value.type "FutureWarning"), de P "ImportWarning" (nat_lit 114) (Value.type "ImportWarning"), de P "PendingDeprecationWarning" (nat_lit 115) (Value.type "PendingDeprecationWarning"), de P "ResourceWarning" (nat_lit 116) (Value.type "ResourceWarning"), de P "RuntimeWarning" (nat_lit 117) (Value.type "RuntimeWarning"), de P "SyntaxWarning" (nat_lit 118) (Value.type "SyntaxWarning"), de P "UnicodeWarning" (nat_lit 119) (Value.type "UnicodeWarning"), de P "UserWarning" (nat_lit 120) (Value.type "UserWarning"), de P "BlockingIOError" (nat_lit 121) (Value.type "BlockingIOError"), de P "ChildProcessError" (nat_lit 122) (Value.type "ChildProcessError"), de P "ConnectionError" (nat_lit 123) (Value.type "ConnectionError"), de P "FileExistsError" (nat_lit 124) (Value.type "FileExistsError"), de P "FileNotFoundError" (nat_lit 125) (Value.type "FileNotFoundError"), de P "InterruptedError" (nat_lit 126) (Value.type "InterruptedError"), de P "IsADirectoryError" (nat_lit 127) (Value.type "IsADirectoryError"), de P "NotADirectoryError" (nat_lit 128) (Value.type "NotADirectoryError"), de P "PermissionError" (nat_lit 129) (Value.type "PermissionError"), de P "ProcessLookupError" (nat_lit 130) (Value.type "ProcessLookupError"), de P "TimeoutError" (nat_lit 131) (Value.type "TimeoutError"), de P "IndentationError" (nat_lit 132) (Value.type "IndentationError"), de P "_IncompleteInputError" (nat_lit 133) (Value.type "_IncompleteInputError"), de P "IndexError" (nat_lit 134) (Value.type "IndexError"), de P "KeyError" (nat_lit 135) (Value.type "KeyError"), de P "ModuleNotFoundError" (nat_lit 136) (Value.type "ModuleNotFoundError"), de P "NotImplementedError" (nat_lit 137) (Value.type "NotImplementedError"), de P "PythonFinalizationError" (nat_lit 138) (Value.type "PythonFinalizationError"), de P "RecursionError" (nat_lit 139) (Value.type "RecursionError"), de P "UnboundLocalError" (nat_lit 140) (Value.type "UnboundLocalError"), de P "UnicodeError" (nat_lit 141) (Value.type "UnicodeError"), de P "BrokenPipeError" (nat_lit 142) (Value.type "BrokenPipeError"), de P "ConnectionAbortedError" (nat_lit 143) (Value.type "ConnectionAbortedError"), de P "ConnectionRefusedError" (nat_lit 144) (Value.type "ConnectionRefusedError"), de P "ConnectionResetError" (nat_lit 145) (Value.type "ConnectionResetError"), de P "TabError" (nat_lit 146) (Value.type "TabError"), de P "UnicodeDecodeError" (nat_lit 147) (Value.type "UnicodeDecodeError"), de P "UnicodeEncodeError" (nat_lit 148) (Value.type "UnicodeEncodeError"), de P "UnicodeTranslateError" (nat_lit 149) (Value.type "UnicodeTranslateError"), de P "ExceptionGroup" (nat_lit 150) (Value.type "ExceptionGroup"), de P "EnvironmentError" (nat_lit 151) (Value.type "OSError"), de P "IOError" (nat_lit 152) (Value.type "OSError"), de P "open" (nat_lit 153) (Value.builtin "open"), de P "quit" (nat_lit 154) (Value.builtin "builtins.quit#opaque"), de P "exit" (nat_lit 155) (Value.builtin "builtins.exit#opaque"), de P "copyright" (nat_lit 156) (Value.builtin "builtins.copyright#opaque"), de P "credits" (nat_lit 157) (Value.builtin "builtins.credits#opaque"), de P "license" (nat_lit 158) (Value.builtin "builtins.license#opaque"), de P "help" (nat_lit 159) (Value.builtin "builtins.help#opaque")] 159 },
  { cls := Value.type "dict", data := Data.dict #[de P "builtins" (nat_lit 162) (rV (nat_lit 4)), de P "__main__" (nat_lit 163) (rV (nat_lit 5)), de P "_sre" (nat_lit 244) (rV (nat_lit 12))] 3 },
  { cls := Value.none, data := Data.dict #[{ hash := PyData.keyHash P ({ cps := #[105, 109, 112, 111, 114, 116, 46, 108, 111, 97, 100, 101, 100, 46, 95, 115, 114, 101] }), key := Value.str ({ cps := #[105, 109, 112, 111, 114, 116, 46, 108, 111, 97, 100, 101, 100, 46, 95, 115, 114, 101] }) 183, val := Value.bool true }, de P "class._frozen_importlib.BuiltinImporter" (nat_lit 185) (rV (nat_lit 14)), { hash := PyData.keyHash P ({ cps := #[119, 97, 116, 99, 104, 101, 100, 46, 105, 109, 112, 111, 114, 116] }), key := Value.str ({ cps := #[119, 97, 116, 99, 104, 101, 100, 46, 105, 109, 112, 111, 114, 116] }) 206, val := rV (nat_lit 18) }, de P "class._frozen_importlib.ModuleSpec" (nat_lit 216) (rV (nat_lit 22)), de P "sys.modules.booked-epoch" (nat_lit 245) (Value.int 3 0), { hash := PyData.keyHash P ({ cps := #[105, 109, 112, 111, 114, 116, 46, 108, 97, 116, 101, 114, 45, 108, 97, 105, 100, 46, 95, 115, 114, 101] }), key := Value.str ({ cps := #[105, 109, 112, 111, 114, 116, 46, 108, 97, 116, 101, 114, 45, 108, 97, 105, 100, 46, 95, 115, 114, 101] }) 270, val := Value.bool true }, de P "watched.library" (nat_lit 272) (rV (nat_lit 27)), de P "watched.library-objects" (nat_lit 0) (Value.str ({ cps := #[12] }) 0), de P "watched.library-deep._sre" (nat_lit 273) (Value.str ({ cps := #[4, 0, 0, 11, 4, 0, 0, 11, 4, 0, 0, 3, 4, 0, 0, 11, 8, 4, 100, 105, 99, 116, 2] }) 0)] 9 },
  { cls := Value.type "dict", data := Data.dict #[{ hash := PyData.keyHash P (Str.ofString "__name__"), key := Value.str (Str.ofString "__name__") 165, val := Value.str (Str.ofString "law_uk0021_01") 632 }, { hash := PyData.keyHash P (Str.ofString "__doc__"), key := Value.str (Str.ofString "__doc__") 166, val := Value.none }, { hash := PyData.keyHash P (Str.ofString "__package__"), key := Value.str (Str.ofString "__package__") 167, val := Value.none }, { hash := PyData.keyHash P (Str.ofString "__loader__"), key := Value.str (Str.ofString "__loader__") 168, val := Value.builtin "__main__.__loader__#opaque" }, { hash := PyData.keyHash P (Str.ofString "__spec__"), key := Value.str (Str.ofString "__spec__") 169, val := Value.none }, { hash := PyData.keyHash P (Str.ofString "__annotations__"), key := Value.str (Str.ofString "__annotations__") 170, val := Value.ref 6 }, { hash := PyData.keyHash P (Str.ofString "__builtins__"), key := Value.str (Str.ofString "__builtins__") 171, val := Value.ref 4 }, { hash := PyData.keyHash P (Str.ofString "__file__"), key := Value.str (Str.ofString "__file__") 173, val := Value.str (Str.ofString "/claim/cut.py") 172 }, { hash := PyData.keyHash P (Str.ofString "__cached__"), key := Value.str (Str.ofString "__cached__") 174, val := Value.none }, { hash := PyData.keyHash P (Str.ofString "_sre"), key := Value.str (Str.ofString "_sre") 275, val := Value.ref 12 }, { hash := PyData.keyHash P (Str.ofString "_wall"), key := Value.str (Str.ofString "_wall") 288, val := Value.ref 38 }, { hash := PyData.keyHash P (Str.ofString "insort_right"), key := Value.str (Str.ofString "insort_right") 303, val := Value.ref 47 }, { hash := PyData.keyHash P (Str.ofString "bisect_right"), key := Value.str (Str.ofString "bisect_right") 317, val := Value.ref 56 }, { hash := PyData.keyHash P (Str.ofString "bisect_left"), key := Value.str (Str.ofString "bisect_left") 331, val := Value.ref 65 }, { hash := PyData.keyHash P (Str.ofString "tspecials"), key := Value.str (Str.ofString "tspecials") 367, val := Value.ref 70 }, { hash := PyData.keyHash P (Str.ofString "_name_disallowed_re"), key := Value.str (Str.ofString "_name_disallowed_re") 393, val := Value.ref 75 }, { hash := PyData.keyHash P (Str.ofString "_value_disallowed_re"), key := Value.str (Str.ofString "_value_disallowed_re") 427, val := Value.ref 80 }, { hash := PyData.keyHash P (Str.ofString "_formatparam"), key := Value.str (Str.ofString "_formatparam") 437, val := Value.ref 88 }, { hash := PyData.keyHash P (Str.ofString "Headers"), key := Value.str (Str.ofString "Headers") 594, val := Value.ref 209 }, { hash := PyData.keyHash P (Str.ofString "_raise_serialization_error"), key := Value.str (Str.ofString "_raise_serialization_error") 603, val := Value.ref 220 }, { hash := PyData.keyHash P (Str.ofString "_escape_cdata"), key := Value.str (Str.ofString "_escape_cdata") 610, val := Value.ref 227 }, { hash := PyData.keyHash P (Str.ofString "_escape_attrib"), key := Value.str (Str.ofString "_escape_attrib") 617, val := Value.ref 234 }, { hash := PyData.keyHash P (Str.ofString "_escape_cdata_c14n"), key := Value.str (Str.ofString "_escape_cdata_c14n") 624, val := Value.ref 241 }, { hash := PyData.keyHash P (Str.ofString "_escape_attrib_c14n"), key := Value.str (Str.ofString "_escape_attrib_c14n") 631, val := Value.ref 248 }, { hash := PyData.keyHash P (Str.ofString "_law_drawn"), key := Value.str (Str.ofString "_law_drawn") 647, val := Value.ref 255 }, { hash := PyData.keyHash P (Str.ofString "_law_hand"), key := Value.str (Str.ofString "_law_hand") 655, val := Value.ref 262 }, { hash := PyData.keyHash P (Str.ofString "_law_spelled"), key := Value.str (Str.ofString "_law_spelled") 661, val := Value.ref 267 }, { hash := PyData.keyHash P (Str.ofString "_law_page"), key := Value.str (Str.ofString "_law_page") 667, val := Value.ref 272 }, { hash := PyData.keyHash P (Str.ofString "_law_read"), key := Value.str (Str.ofString "_law_read") 681, val := Value.ref 279 }, { hash := PyData.keyHash P (Str.ofString "_law_index"), key := Value.str (Str.ofString "_law_index") 692, val := Value.ref 286 }, { hash := PyData.keyHash P (Str.ofString "_law_row"), key := Value.str (Str.ofString "_law_row") 701, val := Value.ref 293 }, { hash := PyData.keyHash P (Str.ofString "_law_common"), key := Value.str (Str.ofString "_law_common") 712, val := Value.ref 300 }, { hash := PyData.keyHash P (Str.ofString "_law_nearest"), key := Value.str (Str.ofString "_law_nearest") 718, val := Value.ref 305 }, { hash := PyData.keyHash P (Str.ofString "_law_tag"), key := Value.str (Str.ofString "_law_tag") 726, val := Value.ref 312 }, { hash := PyData.keyHash P (Str.ofString "_law_found"), key := Value.str (Str.ofString "_law_found") 732, val := Value.ref 317 }, { hash := PyData.keyHash P (Str.ofString "_law_whole"), key := Value.str (Str.ofString "_law_whole") 738, val := Value.ref 322 }, { hash := PyData.keyHash P (Str.ofString "_law_parts"), key := Value.str (Str.ofString "_law_parts") 749, val := Value.ref 329 }, { hash := PyData.keyHash P (Str.ofString "_law_has"), key := Value.str (Str.ofString "_law_has") 759, val := Value.ref 336 }, { hash := PyData.keyHash P (Str.ofString "_law_least"), key := Value.str (Str.ofString "_law_least") 765, val := Value.ref 341 }, { hash := PyData.keyHash P (Str.ofString "law"), key := Value.str (Str.ofString "law") 771, val := Value.ref 346 }] 40 },
  { cls := Value.type "module", dict := some 0 },
  { cls := Value.type "module", dict := some 3 },
  { cls := Value.type "dict", data := Data.dict #[] },
  { cls := Value.type "tuple", data := Data.seq #[] },
  { cls := Value.none, data := Data.fields #[] },
  { cls := Value.type "code", data := Data.fields #[sV "<module>" (nat_lit 176), sV "<module>" (nat_lit 177), sV "/claim/cut.py" (nat_lit 178), Value.int 1 0, Value.int 0 0, Value.int 0 0, Value.int 0 0, Value.int 0 0, rV (nat_lit 7), Value.bool false, Value.int 175 0, rV (nat_lit 8), Value.none, Value.none, Value.none, Value.none, Value.int 179 0, Value.int 1 0, sV "/claim/cut.py" (nat_lit 180)] },
  { cls := Value.type "frame", slots := #[some (rV (nat_lit 9)), some (rV (nat_lit 3)), some (rV (nat_lit 3)), none, some (sV "__main__" (nat_lit 164)), none, some (rV (nat_lit 0))] },
  { cls := Value.type "dict", data := Data.dict #[de P "__name__" (nat_lit 247) (sV "_sre" (nat_lit 246)), de P "__doc__" (nat_lit 248) Value.none, de P "__package__" (nat_lit 250) (sV "" (nat_lit 249)), de P "__loader__" (nat_lit 251) (Value.builtin (fenceId (Str.ofString "_sre") (Str.ofString "__loader__"))), de P "__spec__" (nat_lit 252) (Value.builtin (fenceId (Str.ofString "_sre") (Str.ofString "__spec__"))), de P "compile" (nat_lit 253) (Value.builtin "_sre.compile"), de P "template" (nat_lit 254) (Value.builtin (fenceId (Str.ofString "_sre") (Str.ofString "template"))), de P "getcodesize" (nat_lit 255) (Value.builtin (fenceId (Str.ofString "_sre") (Str.ofString "getcodesize"))), de P "ascii_iscased" (nat_lit 256) (Value.builtin (fenceId (Str.ofString "_sre") (Str.ofString "ascii_iscased"))), de P "unicode_iscased" (nat_lit 257) (Value.builtin (fenceId (Str.ofString "_sre") (Str.ofString "unicode_iscased"))), de P "ascii_tolower" (nat_lit 258) (Value.builtin (fenceId (Str.ofString "_sre") (Str.ofString "ascii_tolower"))), de P "unicode_tolower" (nat_lit 259) (Value.builtin (fenceId (Str.ofString "_sre") (Str.ofString "unicode_tolower"))), de P "MAGIC" (nat_lit 261) (Value.int 20230612 260), de P "CODESIZE" (nat_lit 263) (Value.int 4 262), de P "MAXREPEAT" (nat_lit 265) (Value.int 4294967295 264), de P "MAXGROUPS" (nat_lit 267) (Value.int 1073741823 266), de P "copyright" (nat_lit 269) (sV " SRE 2.2.2 Copyright (c) 1997-2002 by Secret Labs AB " (nat_lit 268))] 17 },
  { cls := Value.type "module", dict := some 11 },
  { cls := Value.type "dict", data := Data.dict #[de P "__module__" (nat_lit 189) (sV "_frozen_importlib" (nat_lit 186)), de P "__firstlineno__" (nat_lit 190) (Value.int 971 187), de P "__doc__" (nat_lit 191) (Value.builtin "_frozen_importlib.BuiltinImporter.__doc__:str#opaque"), de P "_ORIGIN" (nat_lit 192) (sV "built-in" (nat_lit 188)), de P "find_spec" (nat_lit 193) (Value.builtin "_frozen_importlib.BuiltinImporter.find_spec#opaque"), de P "create_module" (nat_lit 194) (Value.builtin "_frozen_importlib.BuiltinImporter.create_module#opaque"), de P "exec_module" (nat_lit 195) (Value.builtin "_frozen_importlib.BuiltinImporter.exec_module#opaque"), de P "get_code" (nat_lit 196) (Value.builtin "_frozen_importlib.BuiltinImporter.get_code#opaque"), de P "get_source" (nat_lit 197) (Value.builtin "_frozen_importlib.BuiltinImporter.get_source#opaque"), de P "is_package" (nat_lit 198) (Value.builtin "_frozen_importlib.BuiltinImporter.is_package#opaque"), de P "load_module" (nat_lit 199) (Value.builtin "_frozen_importlib.BuiltinImporter.load_module#opaque"), de P "__static_attributes__" (nat_lit 200) (rV (nat_lit 15)), de P "__dict__" (nat_lit 202) (rV (nat_lit 16)), de P "__weakref__" (nat_lit 204) (rV (nat_lit 17))] 14 },
  { cls := Value.type "type", data := Data.cls { name := Str.ofString "BuiltinImporter", bases := [Value.type "object"], mro := [rV (nat_lit 14), Value.type "object"], ns := 13, qualname := Str.ofString "BuiltinImporter" } },
  { cls := Value.type "tuple", data := Data.seq #[] },
  { cls := Value.type "getset_descriptor", data := Data.fields #[sV "__dict__" (nat_lit 201), rV (nat_lit 14), Value.builtin "function.__dict__", Value.builtin "function.__dict__#set"] },
  { cls := Value.type "getset_descriptor", data := Data.fields #[sV "__weakref__" (nat_lit 203), rV (nat_lit 14), Value.builtin "ExceptionGroup.__weakref__", Value.none] },
  { cls := Value.none, data := Data.seq #[Value.int 13 0, Value.str ({ cps := #[6, 189, 10, 95, 95, 109, 111, 100, 117, 108, 101, 95, 95, 6, 186, 17, 95, 102, 114, 111, 122, 101, 110, 95, 105, 109, 112, 111, 114, 116, 108, 105, 98, 6, 190, 15, 95, 95, 102, 105, 114, 115, 116, 108, 105, 110, 101, 110, 111, 95, 95, 4, 187, 0, 971, 6, 191, 7, 95, 95, 100, 111, 99, 95, 95, 9, 52, 95, 102, 114, 111, 122, 101, 110, 95, 105, 109, 112, 111, 114, 116, 108, 105, 98, 46, 66, 117, 105, 108, 116, 105, 110, 73, 109, 112, 111, 114, 116, 101, 114, 46, 95, 95, 100, 111, 99, 95, 95, 58, 115, 116, 114, 35, 111, 112, 97, 113, 117, 101, 6, 192, 7, 95, 79, 82, 73, 71, 73, 78, 6, 188, 8, 98, 117, 105, 108, 116, 45, 105, 110, 6, 193, 9, 102, 105, 110, 100, 95, 115, 112, 101, 99, 9, 50, 95, 102, 114, 111, 122, 101, 110, 95, 105, 109, 112, 111, 114, 116, 108, 105, 98, 46, 66, 117, 105, 108, 116, 105, 110, 73, 109, 112, 111, 114, 116, 101, 114, 46, 102, 105, 110, 100, 95, 115, 112, 101, 99, 35, 111, 112, 97, 113, 117, 101, 6, 194, 13, 99, 114, 101, 97, 116, 101, 95, 109, 111, 100, 117, 108, 101, 9, 54, 95, 102, 114, 111, 122, 101, 110, 95, 105, 109, 112, 111, 114, 116, 108, 105, 98, 46, 66, 117, 105, 108, 116, 105, 110, 73, 109, 112, 111, 114, 116, 101, 114, 46, 99, 114, 101, 97, 116, 101, 95, 109, 111, 100, 117, 108, 101, 35, 111, 112, 97, 113, 117, 101, 6, 195, 11, 101, 120, 101, 99, 95, 109, 111, 100, 117, 108, 101, 9, 52, 95, 102, 114, 111, 122, 101, 110, 95, 105, 109, 112, 111, 114, 116, 108, 105, 98, 46, 66, 117, 105, 108, 116, 105, 110, 73, 109, 112, 111, 114, 116, 101, 114, 46, 101, 120, 101, 99, 95, 109, 111, 100, 117, 108, 101, 35, 111, 112, 97, 113, 117, 101, 6, 196, 8, 103, 101, 116, 95, 99, 111, 100, 101, 9, 49, 95, 102, 114, 111, 122, 101, 110, 95, 105, 109, 112, 111, 114, 116, 108, 105, 98, 46, 66, 117, 105, 108, 116, 105, 110, 73, 109, 112, 111, 114, 116, 101, 114, 46, 103, 101, 116, 95, 99, 111, 100, 101, 35, 111, 112, 97, 113, 117, 101, 6, 197, 10, 103, 101, 116, 95, 115, 111, 117, 114, 99, 101, 9, 51, 95, 102, 114, 111, 122, 101, 110, 95, 105, 109, 112, 111, 114, 116, 108, 105, 98, 46, 66, 117, 105, 108, 116, 105, 110, 73, 109, 112, 111, 114, 116, 101, 114, 46, 103, 101, 116, 95, 115, 111, 117, 114, 99, 101, 35, 111, 112, 97, 113, 117, 101, 6, 198, 10, 105, 115, 95, 112, 97, 99, 107, 97, 103, 101, 9, 51, 95, 102, 114, 111, 122, 101, 110, 95, 105, 109, 112, 111, 114, 116, 108, 105, 98, 46, 66, 117, 105, 108, 116, 105, 110, 73, 109, 112, 111, 114, 116, 101, 114, 46, 105, 115, 95, 112, 97, 99, 107, 97, 103, 101, 35, 111, 112, 97, 113, 117, 101, 6, 199, 11, 108, 111, 97, 100, 95, 109, 111, 100, 117, 108, 101, 9, 52, 95, 102, 114, 111, 122, 101, 110, 95, 105, 109, 112, 111, 114, 116, 108, 105, 98, 46, 66, 117, 105, 108, 116, 105, 110, 73, 109, 112, 111, 114, 116, 101, 114, 46, 108, 111, 97, 100, 95, 109, 111, 100, 117, 108, 101, 35, 111, 112, 97, 113, 117, 101, 6, 200, 21, 95, 95, 115, 116, 97, 116, 105, 99, 95, 97, 116, 116, 114, 105, 98, 117, 116, 101, 115, 95, 95, 4, 0, 0, 15, 6, 202, 8, 95, 95, 100, 105, 99, 116, 95, 95, 4, 0, 0, 16, 6, 204, 11, 95, 95, 119, 101, 97, 107, 114, 101, 102, 95, 95, 4, 0, 0, 17] }) 0, Value.bool true, Value.bool true, sV "" (nat_lit 205), Value.int 21 0, Value.str ({ cps := #[6, 227, 10, 95, 95, 109, 111, 100, 117, 108, 101, 95, 95, 6, 217, 17, 95, 102, 114, 111, 122, 101, 110, 95, 105, 109, 112, 111, 114, 116, 108, 105, 98, 6, 228, 15, 95, 95, 102, 105, 114, 115, 116, 108, 105, 110, 101, 110, 111, 95, 95, 4, 218, 0, 562, 6, 229, 7, 95, 95, 100, 111, 99, 95, 95, 9, 47, 95, 102, 114, 111, 122, 101, 110, 95, 105, 109, 112, 111, 114, 116, 108, 105, 98, 46, 77, 111, 100, 117, 108, 101, 83, 112, 101, 99, 46, 95, 95, 100, 111, 99, 95, 95, 58, 115, 116, 114, 35, 111, 112, 97, 113, 117, 101, 6, 230, 8, 95, 95, 105, 110, 105, 116, 95, 95, 9, 44, 95, 102, 114, 111, 122, 101, 110, 95, 105, 109, 112, 111, 114, 116, 108, 105, 98, 46, 77, 111, 100, 117, 108, 101, 83, 112, 101, 99, 46, 95, 95, 105, 110, 105, 116, 95, 95, 35, 111, 112, 97, 113, 117, 101, 6, 231, 8, 95, 95, 114, 101, 112, 114, 95, 95, 9, 44, 95, 102, 114, 111, 122, 101, 110, 95, 105, 109, 112, 111, 114, 116, 108, 105, 98, 46, 77, 111, 100, 117, 108, 101, 83, 112, 101, 99, 46, 95, 95, 114, 101, 112, 114, 95, 95, 35, 111, 112, 97, 113, 117, 101, 6, 232, 6, 95, 95, 101, 113, 95, 95, 9, 42, 95, 102, 114, 111, 122, 101, 110, 95, 105, 109, 112, 111, 114, 116, 108, 105, 98, 46, 77, 111, 100, 117, 108, 101, 83, 112, 101, 99, 46, 95, 95, 101, 113, 95, 95, 35, 111, 112, 97, 113, 117, 101, 6, 233, 6, 99, 97, 99, 104, 101, 100, 9, 42, 95, 102, 114, 111, 122, 101, 110, 95, 105, 109, 112, 111, 114, 116, 108, 105, 98, 46, 77, 111, 100, 117, 108, 101, 83, 112, 101, 99, 46, 99, 97, 99, 104, 101, 100, 35, 111, 112, 97, 113, 117, 101, 6, 234, 6, 112, 97, 114, 101, 110, 116, 9, 42, 95, 102, 114, 111, 122, 101, 110, 95, 105, 109, 112, 111, 114, 116, 108, 105, 98, 46, 77, 111, 100, 117, 108, 101, 83, 112, 101, 99, 46, 112, 97, 114, 101, 110, 116, 35, 111, 112, 97, 113, 117, 101, 6, 235, 12, 104, 97, 115, 95, 108, 111, 99, 97, 116, 105, 111, 110, 9, 48, 95, 102, 114, 111, 122, 101, 110, 95, 105, 109, 112, 111, 114, 116, 108, 105, 98, 46, 77, 111, 100, 117, 108, 101, 83, 112, 101, 99, 46, 104, 97, 115, 95, 108, 111, 99, 97, 116, 105, 111, 110, 35, 111, 112, 97, 113, 117, 101, 6, 236, 21, 95, 95, 115, 116, 97, 116, 105, 99, 95, 97, 116, 116, 114, 105, 98, 117, 116, 101, 115, 95, 95, 4, 0, 0, 23, 6, 238, 8, 95, 95, 100, 105, 99, 116, 95, 95, 4, 0, 0, 24, 6, 240, 11, 95, 95, 119, 101, 97, 107, 114, 101, 102, 95, 95, 4, 0, 0, 25, 6, 241, 8, 95, 95, 104, 97, 115, 104, 95, 95, 0] }) 0, Value.bool true, Value.bool true, sV "" (nat_lit 242)] 1 },
  { cls := Value.type "list", data := Data.seq #[] },
  { cls := Value.type "dict", data := Data.dict #[de P "name" (nat_lit 208) (sV "_sre" (nat_lit 207)), de P "loader" (nat_lit 209) (rV (nat_lit 14)), de P "origin" (nat_lit 210) (sV "built-in" (nat_lit 184)), de P "loader_state" (nat_lit 211) Value.none, de P "submodule_search_locations" (nat_lit 212) Value.none, de P "_uninitialized_submodules" (nat_lit 213) (rV (nat_lit 19)), de P "_set_fileattr" (nat_lit 214) (Value.bool false), de P "_cached" (nat_lit 215) Value.none, de P "_initializing" (nat_lit 243) (Value.bool false)] 9 },
  { cls := Value.type "dict", data := Data.dict #[de P "__module__" (nat_lit 227) (sV "_frozen_importlib" (nat_lit 217)), de P "__firstlineno__" (nat_lit 228) (Value.int 562 218), de P "__doc__" (nat_lit 229) (Value.builtin "_frozen_importlib.ModuleSpec.__doc__:str#opaque"), de P "__init__" (nat_lit 230) (Value.builtin "_frozen_importlib.ModuleSpec.__init__#opaque"), de P "__repr__" (nat_lit 231) (Value.builtin "_frozen_importlib.ModuleSpec.__repr__#opaque"), de P "__eq__" (nat_lit 232) (Value.builtin "_frozen_importlib.ModuleSpec.__eq__#opaque"), de P "cached" (nat_lit 233) (Value.builtin "_frozen_importlib.ModuleSpec.cached#opaque"), de P "parent" (nat_lit 234) (Value.builtin "_frozen_importlib.ModuleSpec.parent#opaque"), de P "has_location" (nat_lit 235) (Value.builtin "_frozen_importlib.ModuleSpec.has_location#opaque"), de P "__static_attributes__" (nat_lit 236) (rV (nat_lit 23)), de P "__dict__" (nat_lit 238) (rV (nat_lit 24)), de P "__weakref__" (nat_lit 240) (rV (nat_lit 25)), de P "__hash__" (nat_lit 241) Value.none] 13 },
  { cls := Value.type "type", data := Data.cls { name := Str.ofString "ModuleSpec", bases := [Value.type "object"], mro := [rV (nat_lit 22), Value.type "object"], ns := 21, qualname := Str.ofString "ModuleSpec" } },
  { cls := Value.type "tuple", data := Data.seq #[sV "_cached" (nat_lit 219), sV "_set_fileattr" (nat_lit 220), sV "_uninitialized_submodules" (nat_lit 221), sV "loader" (nat_lit 222), sV "loader_state" (nat_lit 223), sV "name" (nat_lit 224), sV "origin" (nat_lit 225), sV "submodule_search_locations" (nat_lit 226)] },
  { cls := Value.type "getset_descriptor", data := Data.fields #[sV "__dict__" (nat_lit 237), rV (nat_lit 22), Value.builtin "function.__dict__", Value.builtin "function.__dict__#set"] },
  { cls := Value.type "getset_descriptor", data := Data.fields #[sV "__weakref__" (nat_lit 239), rV (nat_lit 22), Value.builtin "ExceptionGroup.__weakref__", Value.none] },
  { cls := rV (nat_lit 22), dict := some 20 },
  { cls := Value.none, data := Data.seq #[Value.int 11 0, Value.str { cps := #[6, 247, 8, 95, 95, 110, 97, 109, 101, 95, 95, 6, 246, 4, 95, 115, 114, 101, 6, 248, 7, 95, 95, 100, 111, 99, 95, 95, 0, 6, 250, 11, 95, 95, 112, 97, 99, 107, 97, 103, 101, 95, 95, 6, 249, 0, 6, 251, 10, 95, 95, 108, 111, 97, 100, 101, 114, 95, 95, 4, 0, 0, 14, 6, 252, 8, 95, 95, 115, 112, 101, 99, 95, 95, 4, 0, 0, 26, 6, 253, 7, 99, 111, 109, 112, 105, 108, 101, 9, 12, 95, 115, 114, 101, 46, 99, 111, 109, 112, 105, 108, 101, 6, 254, 8, 116, 101, 109, 112, 108, 97, 116, 101, 9, 13, 95, 115, 114, 101, 46, 116, 101, 109, 112, 108, 97, 116, 101, 6, 255, 11, 103, 101, 116, 99, 111, 100, 101, 115, 105, 122, 101, 9, 16, 95, 115, 114, 101, 46, 103, 101, 116, 99, 111, 100, 101, 115, 105, 122, 101, 6, 256, 13, 97, 115, 99, 105, 105, 95, 105, 115, 99, 97, 115, 101, 100, 9, 18, 95, 115, 114, 101, 46, 97, 115, 99, 105, 105, 95, 105, 115, 99, 97, 115, 101, 100, 6, 257, 15, 117, 110, 105, 99, 111, 100, 101, 95, 105, 115, 99, 97, 115, 101, 100, 9, 20, 95, 115, 114, 101, 46, 117, 110, 105, 99, 111, 100, 101, 95, 105, 115, 99, 97, 115, 101, 100, 6, 258, 13, 97, 115, 99, 105, 105, 95, 116, 111, 108, 111, 119, 101, 114, 9, 18, 95, 115, 114, 101, 46, 97, 115, 99, 105, 105, 95, 116, 111, 108, 111, 119, 101, 114, 6, 259, 15, 117, 110, 105, 99, 111, 100, 101, 95, 116, 111, 108, 111, 119, 101, 114, 9, 20, 95, 115, 114, 101, 46, 117, 110, 105, 99, 111, 100, 101, 95, 116, 111, 108, 111, 119, 101, 114, 6, 261, 5, 77, 65, 71, 73, 67, 4, 260, 0, 20230612, 6, 263, 8, 67, 79, 68, 69, 83, 73, 90, 69, 4, 262, 0, 4, 6, 265, 9, 77, 65, 88, 82, 69, 80, 69, 65, 84, 4, 264, 0, 4294967295, 6, 267, 9, 77, 65, 88, 71, 82, 79, 85, 80, 83, 4, 266, 0, 1073741823, 6, 269, 9, 99, 111, 112, 121, 114, 105, 103, 104, 116, 6, 268, 53, 32, 83, 82, 69, 32, 50, 46, 50, 46, 50, 32, 67, 111, 112, 121, 114, 105, 103, 104, 116, 32, 40, 99, 41, 32, 49, 57, 57, 55, 45, 50, 48, 48, 50, 32, 98, 121, 32, 83, 101, 99, 114, 101, 116, 32, 76, 97, 98, 115, 32, 65, 66, 32] } 0, Value.bool true, Value.bool false, sV "_sre" (nat_lit 271)] },
  { cls := Value.type "tuple", data := Data.seq #[] },
  { cls := Value.none, data := Data.fields #[Value.int 2 0, Value.int 0 0, rV (nat_lit 37), Value.int 6 0, Value.int 0 0, rV (nat_lit 46), Value.int 12 0, Value.int 0 0, rV (nat_lit 55), Value.int 32 0, Value.int 0 0, rV (nat_lit 64), Value.int 56 0, Value.int 0 0, rV (nat_lit 87), Value.int 65 0, Value.int 0 0, rV (nat_lit 94), Value.int 148 0, Value.int 0 0, rV (nat_lit 219), Value.int 150 0, Value.int 0 0, rV (nat_lit 226), Value.int 161 0, Value.int 0 0, rV (nat_lit 233), Value.int 180 0, Value.int 0 0, rV (nat_lit 240), Value.int 193 0, Value.int 0 0, rV (nat_lit 247), Value.int 211 0, Value.int 0 0, rV (nat_lit 254), Value.int 228 0, Value.int 0 0, rV (nat_lit 261), Value.int 236 0, Value.int 0 0, rV (nat_lit 266), Value.int 239 0, Value.int 0 0, rV (nat_lit 271), Value.int 246 0, Value.int 0 0, rV (nat_lit 278), Value.int 264 0, Value.int 0 0, rV (nat_lit 285), Value.int 269 0, Value.int 0 0, rV (nat_lit 292), Value.int 275 0, Value.int 0 0, rV (nat_lit 299), Value.int 280 0, Value.int 0 0, rV (nat_lit 304), Value.int 283 0, Value.int 0 0, rV (nat_lit 311), Value.int 285 0, Value.int 0 0, rV (nat_lit 316), Value.int 293 0, Value.int 0 0, rV (nat_lit 321), Value.int 304 0, Value.int 0 0, rV (nat_lit 328), Value.int 312 0, Value.int 0 0, rV (nat_lit 335), Value.int 315 0, Value.int 0 0, rV (nat_lit 340), Value.int 322 0, Value.int 0 0, rV (nat_lit 345)] },
  { cls := Value.type "code", data := Data.fields #[sV "<module>" (nat_lit 277), sV "<module>" (nat_lit 278), sV "/claim/cut.py" (nat_lit 279), Value.int 1 0, Value.int 0 0, Value.int 0 0, Value.int 0 0, Value.int 0 0, rV (nat_lit 28), Value.bool false, Value.int 276 0, rV (nat_lit 29), Value.none, Value.none, Value.none, Value.none, Value.int 280 0, Value.int 1 0, sV "/claim/cut.py" (nat_lit 281)] },
  { cls := Value.type "frame", slots := #[some (rV (nat_lit 30)), some (rV (nat_lit 3)), some (rV (nat_lit 3)), none, some (sV "__main__" (nat_lit 164)), none, some (rV (nat_lit 0))] },
  { cls := Value.type "tuple", data := Data.seq #[] },
  { cls := Value.none, data := Data.fields #[] },
  { cls := Value.type "tuple", data := Data.seq #[sV "k" (nat_lit 285)] },
  { cls := Value.type "tuple", data := Data.seq #[] },
  fnRaw (stAt 1) (Str.ofString "_wall"),
  { cls := Value.type "code", data := Data.fields #[sV "_wall" (nat_lit 282), sV "_wall" (nat_lit 283), sV "/claim/cut.py" (nat_lit 284), Value.int 2 0, Value.int 1 0, Value.int 0 0, Value.int 0 0, Value.int 3 0, rV (nat_lit 32), Value.bool true, Value.int 276 0, rV (nat_lit 33), Value.none, rV (nat_lit 34), rV (nat_lit 35), rV (nat_lit 36), Value.int 286 0, Value.int 2 0, sV "/claim/cut.py" (nat_lit 287)] },
  fnObj (stAt 1) (Str.ofString "_wall") Value.none Value.none (sV "__main__" (nat_lit 164)) 37,
  { cls := Value.type "tuple", data := Data.seq #[Value.int 0 291, Value.none] },
  { cls := Value.type "dict", data := Data.dict #[{ hash := PyData.keyHash P (Str.ofString "key"), key := Value.str (Str.ofString "key") 292, val := Value.none }] 1 },
  { cls := Value.type "tuple", data := Data.seq #[] },
  { cls := Value.none, data := Data.fields #[] },
  { cls := Value.type "tuple", data := Data.seq #[sV "a" (nat_lit 296), sV "x" (nat_lit 297), sV "lo" (nat_lit 298), sV "hi" (nat_lit 299), sV "key" (nat_lit 300)] },
  { cls := Value.type "tuple", data := Data.seq #[] },
  fnRaw (stAt 3) (Str.ofString "insort_right"),
  { cls := Value.type "code", data := Data.fields #[Value.str (Str.ofString "insort_right") 293, Value.str (Str.ofString "insort_right") 294, Value.str (Str.ofString "/claim/cut.py") 295, Value.int 6 0, Value.int 4 0, Value.int 0 0, Value.int 1 0, Value.int 3 0, Value.ref 41, Value.bool true, Value.int 276 0, Value.ref 42, Value.none, Value.ref 43, Value.ref 44, Value.ref 45, Value.int 301 0, Value.int 6 0, Value.str (Str.ofString "/claim/cut.py") 302] },
  fnObj (stAt 3) (Str.ofString "insort_right") (Value.ref 39) (Value.ref 40) (Value.str (Str.ofString "cpy313.bisect") 289) 46,
  { cls := Value.type "tuple", data := Data.seq #[Value.int 0 304, Value.none] },
  { cls := Value.type "dict", data := Data.dict #[{ hash := PyData.keyHash P (Str.ofString "key"), key := Value.str (Str.ofString "key") 305, val := Value.none }] 1 },
  { cls := Value.type "tuple", data := Data.seq #[] },
  { cls := Value.none, data := Data.fields #[] },
  { cls := Value.type "tuple", data := Data.seq #[sV "a" (nat_lit 309), sV "x" (nat_lit 310), sV "lo" (nat_lit 311), sV "hi" (nat_lit 312), sV "key" (nat_lit 313), sV "mid" (nat_lit 314)] },
  { cls := Value.type "tuple", data := Data.seq #[] },
  fnRaw (stAt 4) (Str.ofString "bisect_right"),
  { cls := Value.type "code", data := Data.fields #[Value.str (Str.ofString "bisect_right") 306, Value.str (Str.ofString "bisect_right") 307, Value.str (Str.ofString "/claim/cut.py") 308, Value.int 12 0, Value.int 4 0, Value.int 0 0, Value.int 1 0, Value.int 3 0, Value.ref 50, Value.bool true, Value.int 276 0, Value.ref 51, Value.none, Value.ref 52, Value.ref 53, Value.ref 54, Value.int 315 0, Value.int 12 0, Value.str (Str.ofString "/claim/cut.py") 316] },
  fnObj (stAt 4) (Str.ofString "bisect_right") (Value.ref 48) (Value.ref 49) (Value.str (Str.ofString "cpy313.bisect") 289) 55,
  { cls := Value.type "tuple", data := Data.seq #[Value.int 0 318, Value.none] },
  { cls := Value.type "dict", data := Data.dict #[{ hash := PyData.keyHash P (Str.ofString "key"), key := Value.str (Str.ofString "key") 319, val := Value.none }] 1 },
  { cls := Value.type "tuple", data := Data.seq #[] },
  { cls := Value.none, data := Data.fields #[] },
  { cls := Value.type "tuple", data := Data.seq #[sV "a" (nat_lit 323), sV "x" (nat_lit 324), sV "lo" (nat_lit 325), sV "hi" (nat_lit 326), sV "key" (nat_lit 327), sV "mid" (nat_lit 328)] },
  { cls := Value.type "tuple", data := Data.seq #[] },
  fnRaw (stAt 5) (Str.ofString "bisect_left"),
  { cls := Value.type "code", data := Data.fields #[Value.str (Str.ofString "bisect_left") 320, Value.str (Str.ofString "bisect_left") 321, Value.str (Str.ofString "/claim/cut.py") 322, Value.int 32 0, Value.int 4 0, Value.int 0 0, Value.int 1 0, Value.int 3 0, Value.ref 59, Value.bool true, Value.int 276 0, Value.ref 60, Value.none, Value.ref 61, Value.ref 62, Value.ref 63, Value.int 329 0, Value.int 32 0, Value.str (Str.ofString "/claim/cut.py") 330] },
  fnObj (stAt 5) (Str.ofString "bisect_left") (Value.ref 57) (Value.ref 58) (Value.str (Str.ofString "cpy313.bisect") 289) 64,
  { cls := Value.type "list", data := Data.seq #[Value.int 14 337, Value.int 14 338, Value.int 4 339, Value.int 1 340, Value.int 1 341, Value.int 9 342, Value.int 0 343, Value.int 4227896069 344, Value.int 939524097 345, Value.int 0 346, Value.int 0 347, Value.int 0 348, Value.int 0 349, Value.int 0 350, Value.int 0 351, Value.int 13 352, Value.int 11 353, Value.int 9 354, Value.int 0 355, Value.int 4227896069 356, Value.int 939524097 357, Value.int 0 358, Value.int 0 359, Value.int 0 360, Value.int 0 361, Value.int 0 362, Value.int 0 363, Value.int 1 364] },
  { cls := Value.type "dict", data := Data.dict #[] },
  { cls := Value.type "tuple", data := Data.seq #[Value.none] },
  { cls := Value.type "tuple", data := Data.seq #[Value.int 14 0, Value.int 14 0, Value.int 4 0, Value.int 1 0, Value.int 1 0, Value.int 9 0, Value.int 0 0, Value.int 4227896069 0, Value.int 939524097 0, Value.int 0 0, Value.int 0 0, Value.int 0 0, Value.int 0 0, Value.int 0 0, Value.int 0 0, Value.int 13 0, Value.int 11 0, Value.int 9 0, Value.int 0 0, Value.int 4227896069 0, Value.int 939524097 0, Value.int 0 0, Value.int 0 0, Value.int 0 0, Value.int 0 0, Value.int 0 0, Value.int 0 0, Value.int 1 0] },
  { cls := Value.type "re.Pattern", data := Data.fields #[Value.str (Str.ofString "[ \\(\\)<>@,;:\\\\\"/\\[\\]\\?=]") 335, Value.int 32 366, Value.int 0 0, Value.none, Value.none, Value.ref 69, Value.int 0 0] },
  { cls := Value.type "list", data := Data.seq #[Value.int 14 371, Value.int 10 372, Value.int 4 373, Value.int 1 374, Value.int 1 375, Value.int 22 376, Value.int 0 377, Value.int 31 378, Value.int 16 379, Value.int 127 380, Value.int 0 381, Value.int 13 382, Value.int 7 383, Value.int 22 384, Value.int 0 385, Value.int 31 386, Value.int 16 387, Value.int 127 388, Value.int 0 389, Value.int 1 390] },
  { cls := Value.type "dict", data := Data.dict #[] },
  { cls := Value.type "tuple", data := Data.seq #[Value.none] },
  { cls := Value.type "tuple", data := Data.seq #[Value.int 14 0, Value.int 10 0, Value.int 4 0, Value.int 1 0, Value.int 1 0, Value.int 22 0, Value.int 0 0, Value.int 31 0, Value.int 16 0, Value.int 127 0, Value.int 0 0, Value.int 13 0, Value.int 7 0, Value.int 22 0, Value.int 0 0, Value.int 31 0, Value.int 16 0, Value.int 127 0, Value.int 0 0, Value.int 1 0] },
  { cls := Value.type "re.Pattern", data := Data.fields #[Value.str (Str.ofString "[\\x00-\\x1F\\x7F]") 369, Value.int 32 392, Value.int 0 0, Value.none, Value.none, Value.ref 74, Value.int 0 0] },
  { cls := Value.type "list", data := Data.seq #[Value.int 14 397, Value.int 14 398, Value.int 4 399, Value.int 1 400, Value.int 1 401, Value.int 9 402, Value.int 4294966783 403, Value.int 0 404, Value.int 0 405, Value.int 2147483648 406, Value.int 0 407, Value.int 0 408, Value.int 0 409, Value.int 0 410, Value.int 0 411, Value.int 13 412, Value.int 11 413, Value.int 9 414, Value.int 4294966783 415, Value.int 0 416, Value.int 0 417, Value.int 2147483648 418, Value.int 0 419, Value.int 0 420, Value.int 0 421, Value.int 0 422, Value.int 0 423, Value.int 1 424] },
  { cls := Value.type "dict", data := Data.dict #[] },
  { cls := Value.type "tuple", data := Data.seq #[Value.none] },
  { cls := Value.type "tuple", data := Data.seq #[Value.int 14 0, Value.int 14 0, Value.int 4 0, Value.int 1 0, Value.int 1 0, Value.int 9 0, Value.int 4294966783 0, Value.int 0 0, Value.int 0 0, Value.int 2147483648 0, Value.int 0 0, Value.int 0 0, Value.int 0 0, Value.int 0 0, Value.int 0 0, Value.int 13 0, Value.int 11 0, Value.int 9 0, Value.int 4294966783 0, Value.int 0 0, Value.int 0 0, Value.int 2147483648 0, Value.int 0 0, Value.int 0 0, Value.int 0 0, Value.int 0 0, Value.int 0 0, Value.int 1 0] },
  { cls := Value.type "re.Pattern", data := Data.fields #[Value.str (Str.ofString "[\\x00-\\x08\\x0A-\\x1F\\x7F]") 395, Value.int 32 426, Value.int 0 0, Value.none, Value.none, Value.ref 79, Value.int 0 0] },
  { cls := Value.type "tuple", data := Data.seq #[Value.none, Value.int 1 428] },
  { cls := Value.type "tuple", data := Data.seq #[] },
  { cls := Value.none, data := Data.fields #[] },
  { cls := Value.type "tuple", data := Data.seq #[sV "param" (nat_lit 432), sV "value" (nat_lit 433), sV "quote" (nat_lit 434)] },
  { cls := Value.type "tuple", data := Data.seq #[] },
  fnRaw (stAt 10) (Str.ofString "_formatparam"),
  { cls := Value.type "code", data := Data.fields #[sV "_formatparam" (nat_lit 429), sV "_formatparam" (nat_lit 430), sV "/claim/cut.py" (nat_lit 431), Value.int 56 0, Value.int 3 0, Value.int 0 0, Value.int 0 0, Value.int 3 0, rV (nat_lit 82), Value.bool true, Value.int 276 0, rV (nat_lit 83), Value.none, rV (nat_lit 84), rV (nat_lit 85), rV (nat_lit 86), Value.int 435 0, Value.int 56 0, sV "/claim/cut.py" (nat_lit 436)] },
  fnObj (stAt 10) (Str.ofString "_formatparam") (rV (nat_lit 81)) Value.none (sV "cpy313.wsgiref.headers" (nat_lit 332)) 87,
  { cls := Value.type "tuple", data := Data.seq #[] },
  { cls := Value.type "builtin_function_or_method", data := Data.fields #[Value.builtin "type.__prepare__", Value.type "type"] },
  { cls := Value.type "dict", data := Data.dict #[de P "__module__" (nat_lit 445) (sV "cpy313.wsgiref.headers" (nat_lit 332)), de P "__qualname__" (nat_lit 447) (sV "Headers" (nat_lit 446)), de P "__firstlineno__" (nat_lit 449) (Value.int 65 448), de P "__init__" (nat_lit 459) (rV (nat_lit 103)), de P "_convert_string_type" (nat_lit 469) (rV (nat_lit 110)), de P "__len__" (nat_lit 476) (rV (nat_lit 117)), de P "__setitem__" (nat_lit 485) (rV (nat_lit 124)), de P "__delitem__" (nat_lit 491) (rV (nat_lit 129)), de P "__getitem__" (nat_lit 499) (rV (nat_lit 136)), de P "__contains__" (nat_lit 507) (rV (nat_lit 143)), de P "get_all" (nat_lit 513) (rV (nat_lit 148)), de P "get" (nat_lit 524) (rV (nat_lit 156)), de P "keys" (nat_lit 530) (rV (nat_lit 161)), de P "values" (nat_lit 536) (rV (nat_lit 166)), de P "items" (nat_lit 543) (rV (nat_lit 173)), de P "__repr__" (nat_lit 550) (rV (nat_lit 180)), de P "__str__" (nat_lit 556) (rV (nat_lit 185)), de P "__bytes__" (nat_lit 563) (rV (nat_lit 192)), de P "setdefault" (nat_lit 572) (rV (nat_lit 199)), de P "add_header" (nat_lit 585) (rV (nat_lit 206)), de P "__static_attributes__" (nat_lit 587) (rV (nat_lit 207))] 21 },
  { cls := Value.type "tuple", data := Data.seq #[] },
  { cls := Value.none, data := Data.fields #[Value.int 67 0, Value.int 4 0, rV (nat_lit 102), Value.int 77 0, Value.int 4 0, rV (nat_lit 109), Value.int 85 0, Value.int 4 0, rV (nat_lit 116), Value.int 88 0, Value.int 4 0, rV (nat_lit 123), Value.int 92 0, Value.int 4 0, rV (nat_lit 128), Value.int 96 0, Value.int 4 0, rV (nat_lit 135), Value.int 99 0, Value.int 4 0, rV (nat_lit 142), Value.int 102 0, Value.int 4 0, rV (nat_lit 147), Value.int 106 0, Value.int 4 0, rV (nat_lit 155), Value.int 113 0, Value.int 4 0, rV (nat_lit 160), Value.int 116 0, Value.int 4 0, rV (nat_lit 165), Value.int 119 0, Value.int 4 0, rV (nat_lit 172), Value.int 122 0, Value.int 4 0, rV (nat_lit 179), Value.int 125 0, Value.int 4 0, rV (nat_lit 184), Value.int 128 0, Value.int 4 0, rV (nat_lit 191), Value.int 131 0, Value.int 4 0, rV (nat_lit 198), Value.int 134 0, Value.int 4 0, rV (nat_lit 205)] },
  { cls := Value.type "code", data := Data.fields #[sV "Headers" (nat_lit 440), sV "Headers" (nat_lit 441), sV "/claim/cut.py" (nat_lit 442), Value.int 65 0, Value.int 0 0, Value.int 0 0, Value.int 0 0, Value.int 0 0, rV (nat_lit 92), Value.bool false, Value.int 276 0, rV (nat_lit 93), Value.none, Value.none, Value.none, Value.none, Value.int 443 0, Value.int 65 0, sV "/claim/cut.py" (nat_lit 444)] },
  { cls := Value.type "frame", slots := #[some (rV (nat_lit 94)), some (rV (nat_lit 3)), some (rV (nat_lit 91)), none, some (sV "cpy313.wsgiref.headers" (nat_lit 332)), none, some (rV (nat_lit 0))] },
  { cls := Value.type "tuple", data := Data.seq #[Value.none] },
  { cls := Value.type "tuple", data := Data.seq #[] },
  { cls := Value.none, data := Data.fields #[] },
  { cls := Value.type "tuple", data := Data.seq #[sV "self" (nat_lit 453), sV "headers" (nat_lit 454), sV "k" (nat_lit 455), sV "v" (nat_lit 456)] },
  { cls := Value.type "tuple", data := Data.seq #[] },
  fnRaw (mtAt 0) (Str.ofString "Headers.__init__"),
  { cls := Value.type "code", data := Data.fields #[Value.str (Str.ofString "__init__") 450, Value.str (Str.ofString "Headers.__init__") 451, Value.str (Str.ofString "/claim/cut.py") 452, Value.int 67 0, Value.int 2 0, Value.int 0 0, Value.int 0 0, Value.int 3 0, Value.ref 97, Value.bool true, Value.int 276 0, Value.ref 98, Value.none, Value.ref 99, Value.ref 100, Value.ref 101, Value.int 457 0, Value.int 67 0, Value.str (Str.ofString "/claim/cut.py") 458] },
  fnObj (mtAt 0) (Str.ofString "Headers.__init__") (Value.ref 96) Value.none (Value.str (Str.ofString "cpy313.wsgiref.headers") 332) 102,
  { cls := Value.type "tuple", data := Data.seq #[] },
  { cls := Value.none, data := Data.fields #[] },
  { cls := Value.type "tuple", data := Data.seq #[sV "self" (nat_lit 463), sV "value" (nat_lit 464), sV "name" (nat_lit 465), sV "regex" (nat_lit 466)] },
  { cls := Value.type "tuple", data := Data.seq #[] },
  fnRaw (mtAt 1) (Str.ofString "Headers._convert_string_type"),
  { cls := Value.type "code", data := Data.fields #[Value.str (Str.ofString "_convert_string_type") 460, Value.str (Str.ofString "Headers._convert_string_type") 461, Value.str (Str.ofString "/claim/cut.py") 462, Value.int 77 0, Value.int 2 0, Value.int 0 0, Value.int 1 0, Value.int 3 0, Value.ref 104, Value.bool true, Value.int 276 0, Value.ref 105, Value.none, Value.ref 106, Value.ref 107, Value.ref 108, Value.int 467 0, Value.int 77 0, Value.str (Str.ofString "/claim/cut.py") 468] },
  fnObj (mtAt 1) (Str.ofString "Headers._convert_string_type") Value.none Value.none (Value.str (Str.ofString "cpy313.wsgiref.headers") 332) 109,
  { cls := Value.type "tuple", data := Data.seq #[] },
  { cls := Value.none, data := Data.fields #[] },
  { cls := Value.type "tuple", data := Data.seq #[sV "self" (nat_lit 473)] },
  { cls := Value.type "tuple", data := Data.seq #[] },
  fnRaw (mtAt 2) (Str.ofString "Headers.__len__"),
  { cls := Value.type "code", data := Data.fields #[sV "__len__" (nat_lit 470), sV "Headers.__len__" (nat_lit 471), sV "/claim/cut.py" (nat_lit 472), Value.int 85 0, Value.int 1 0, Value.int 0 0, Value.int 0 0, Value.int 3 0, rV (nat_lit 111), Value.bool true, Value.int 276 0, rV (nat_lit 112), Value.none, rV (nat_lit 113), rV (nat_lit 114), rV (nat_lit 115), Value.int 474 0, Value.int 85 0, sV "/claim/cut.py" (nat_lit 475)] },
  fnObj (mtAt 2) (Str.ofString "Headers.__len__") Value.none Value.none (sV "cpy313.wsgiref.headers" (nat_lit 332)) 116,
  { cls := Value.type "tuple", data := Data.seq #[] },
  { cls := Value.none, data := Data.fields #[] },
  { cls := Value.type "tuple", data := Data.seq #[sV "self" (nat_lit 480), sV "name" (nat_lit 481), sV "val" (nat_lit 482)] },
  { cls := Value.type "tuple", data := Data.seq #[] },
  fnRaw (mtAt 3) (Str.ofString "Headers.__setitem__"),
  { cls := Value.type "code", data := Data.fields #[sV "__setitem__" (nat_lit 477), sV "Headers.__setitem__" (nat_lit 478), sV "/claim/cut.py" (nat_lit 479), Value.int 88 0, Value.int 3 0, Value.int 0 0, Value.int 0 0, Value.int 3 0, rV (nat_lit 118), Value.bool true, Value.int 276 0, rV (nat_lit 119), Value.none, rV (nat_lit 120), rV (nat_lit 121), rV (nat_lit 122), Value.int 483 0, Value.int 88 0, sV "/claim/cut.py" (nat_lit 484)] },
  fnObj (mtAt 3) (Str.ofString "Headers.__setitem__") Value.none Value.none (sV "cpy313.wsgiref.headers" (nat_lit 332)) 123,
  { cls := Value.type "tuple", data := Data.seq #[] },
  { cls := Value.none, data := Data.fields #[] },
  fnRaw (mtAt 4) (Str.ofString "Headers.__delitem__"),
  { cls := Value.type "code", data := Data.fields #[sV "__delitem__" (nat_lit 486), sV "Headers.__delitem__" (nat_lit 487), sV "/claim/cut.py" (nat_lit 488), Value.int 92 0, Value.int 2 0, Value.int 0 0, Value.int 0 0, Value.int 3 0, rV (nat_lit 125), Value.bool true, Value.int 276 0, rV (nat_lit 126), Value.none, Value.none, Value.none, rV (nat_lit 127), Value.int 489 0, Value.int 92 0, sV "/claim/cut.py" (nat_lit 490)] },
  fnObj (mtAt 4) (Str.ofString "Headers.__delitem__") Value.none Value.none (sV "cpy313.wsgiref.headers" (nat_lit 332)) 128,
  { cls := Value.type "tuple", data := Data.seq #[] },
  { cls := Value.none, data := Data.fields #[] },
  { cls := Value.type "tuple", data := Data.seq #[sV "self" (nat_lit 495), sV "name" (nat_lit 496)] },
  { cls := Value.type "tuple", data := Data.seq #[] },
  fnRaw (mtAt 5) (Str.ofString "Headers.__getitem__"),
  { cls := Value.type "code", data := Data.fields #[sV "__getitem__" (nat_lit 492), sV "Headers.__getitem__" (nat_lit 493), sV "/claim/cut.py" (nat_lit 494), Value.int 96 0, Value.int 2 0, Value.int 0 0, Value.int 0 0, Value.int 3 0, rV (nat_lit 130), Value.bool true, Value.int 276 0, rV (nat_lit 131), Value.none, rV (nat_lit 132), rV (nat_lit 133), rV (nat_lit 134), Value.int 497 0, Value.int 96 0, sV "/claim/cut.py" (nat_lit 498)] },
  fnObj (mtAt 5) (Str.ofString "Headers.__getitem__") Value.none Value.none (sV "cpy313.wsgiref.headers" (nat_lit 332)) 135,
  { cls := Value.type "tuple", data := Data.seq #[] },
  { cls := Value.none, data := Data.fields #[] },
  { cls := Value.type "tuple", data := Data.seq #[sV "self" (nat_lit 503), sV "name" (nat_lit 504)] },
  { cls := Value.type "tuple", data := Data.seq #[] },
  fnRaw (mtAt 6) (Str.ofString "Headers.__contains__"),
  { cls := Value.type "code", data := Data.fields #[sV "__contains__" (nat_lit 500), sV "Headers.__contains__" (nat_lit 501), sV "/claim/cut.py" (nat_lit 502), Value.int 99 0, Value.int 2 0, Value.int 0 0, Value.int 0 0, Value.int 3 0, rV (nat_lit 137), Value.bool true, Value.int 276 0, rV (nat_lit 138), Value.none, rV (nat_lit 139), rV (nat_lit 140), rV (nat_lit 141), Value.int 505 0, Value.int 99 0, sV "/claim/cut.py" (nat_lit 506)] },
  fnObj (mtAt 6) (Str.ofString "Headers.__contains__") Value.none Value.none (sV "cpy313.wsgiref.headers" (nat_lit 332)) 142,
  { cls := Value.type "tuple", data := Data.seq #[] },
  { cls := Value.none, data := Data.fields #[] },
  fnRaw (mtAt 7) (Str.ofString "Headers.get_all"),
  { cls := Value.type "code", data := Data.fields #[Value.str (Str.ofString "get_all") 508, Value.str (Str.ofString "Headers.get_all") 509, Value.str (Str.ofString "/claim/cut.py") 510, Value.int 102 0, Value.int 2 0, Value.int 0 0, Value.int 0 0, Value.int 3 0, Value.ref 144, Value.bool true, Value.int 276 0, Value.ref 145, Value.none, Value.none, Value.none, Value.ref 146, Value.int 511 0, Value.int 102 0, Value.str (Str.ofString "/claim/cut.py") 512] },
  fnObj (mtAt 7) (Str.ofString "Headers.get_all") Value.none Value.none (Value.str (Str.ofString "cpy313.wsgiref.headers") 332) 147,
  { cls := Value.type "tuple", data := Data.seq #[Value.none] },
  { cls := Value.type "tuple", data := Data.seq #[] },
  { cls := Value.none, data := Data.fields #[] },
  { cls := Value.type "tuple", data := Data.seq #[sV "self" (nat_lit 517), sV "name" (nat_lit 518), sV "default" (nat_lit 519), sV "k" (nat_lit 520), sV "v" (nat_lit 521)] },
  { cls := Value.type "tuple", data := Data.seq #[] },
  fnRaw (mtAt 8) (Str.ofString "Headers.get"),
  { cls := Value.type "code", data := Data.fields #[sV "get" (nat_lit 514), sV "Headers.get" (nat_lit 515), sV "/claim/cut.py" (nat_lit 516), Value.int 106 0, Value.int 3 0, Value.int 0 0, Value.int 0 0, Value.int 3 0, rV (nat_lit 150), Value.bool true, Value.int 276 0, rV (nat_lit 151), Value.none, rV (nat_lit 152), rV (nat_lit 153), rV (nat_lit 154), Value.int 522 0, Value.int 106 0, sV "/claim/cut.py" (nat_lit 523)] },
  fnObj (mtAt 8) (Str.ofString "Headers.get") (rV (nat_lit 149)) Value.none (sV "cpy313.wsgiref.headers" (nat_lit 332)) 155,
  { cls := Value.type "tuple", data := Data.seq #[] },
  { cls := Value.none, data := Data.fields #[] },
  fnRaw (mtAt 9) (Str.ofString "Headers.keys"),
  { cls := Value.type "code", data := Data.fields #[Value.str (Str.ofString "keys") 525, Value.str (Str.ofString "Headers.keys") 526, Value.str (Str.ofString "/claim/cut.py") 527, Value.int 113 0, Value.int 1 0, Value.int 0 0, Value.int 0 0, Value.int 3 0, Value.ref 157, Value.bool true, Value.int 276 0, Value.ref 158, Value.none, Value.none, Value.none, Value.ref 159, Value.int 528 0, Value.int 113 0, Value.str (Str.ofString "/claim/cut.py") 529] },
  fnObj (mtAt 9) (Str.ofString "Headers.keys") Value.none Value.none (Value.str (Str.ofString "cpy313.wsgiref.headers") 332) 160,
  { cls := Value.type "tuple", data := Data.seq #[] },
  { cls := Value.none, data := Data.fields #[] },
  fnRaw (mtAt 10) (Str.ofString "Headers.values"),
  { cls := Value.type "code", data := Data.fields #[Value.str (Str.ofString "values") 531, Value.str (Str.ofString "Headers.values") 532, Value.str (Str.ofString "/claim/cut.py") 533, Value.int 116 0, Value.int 1 0, Value.int 0 0, Value.int 0 0, Value.int 3 0, Value.ref 162, Value.bool true, Value.int 276 0, Value.ref 163, Value.none, Value.none, Value.none, Value.ref 164, Value.int 534 0, Value.int 116 0, Value.str (Str.ofString "/claim/cut.py") 535] },
  fnObj (mtAt 10) (Str.ofString "Headers.values") Value.none Value.none (Value.str (Str.ofString "cpy313.wsgiref.headers") 332) 165,
  { cls := Value.type "tuple", data := Data.seq #[] },
  { cls := Value.none, data := Data.fields #[] },
  { cls := Value.type "tuple", data := Data.seq #[sV "self" (nat_lit 540)] },
  { cls := Value.type "tuple", data := Data.seq #[] },
  fnRaw (mtAt 11) (Str.ofString "Headers.items"),
  { cls := Value.type "code", data := Data.fields #[Value.str (Str.ofString "items") 537, Value.str (Str.ofString "Headers.items") 538, Value.str (Str.ofString "/claim/cut.py") 539, Value.int 119 0, Value.int 1 0, Value.int 0 0, Value.int 0 0, Value.int 3 0, Value.ref 167, Value.bool true, Value.int 276 0, Value.ref 168, Value.none, Value.ref 169, Value.ref 170, Value.ref 171, Value.int 541 0, Value.int 119 0, Value.str (Str.ofString "/claim/cut.py") 542] },
  fnObj (mtAt 11) (Str.ofString "Headers.items") Value.none Value.none (Value.str (Str.ofString "cpy313.wsgiref.headers") 332) 172,
  { cls := Value.type "tuple", data := Data.seq #[] },
  { cls := Value.none, data := Data.fields #[] },
  { cls := Value.type "tuple", data := Data.seq #[sV "self" (nat_lit 547)] },
  { cls := Value.type "tuple", data := Data.seq #[] },
  fnRaw (mtAt 12) (Str.ofString "Headers.__repr__"),
  { cls := Value.type "code", data := Data.fields #[sV "__repr__" (nat_lit 544), sV "Headers.__repr__" (nat_lit 545), sV "/claim/cut.py" (nat_lit 546), Value.int 122 0, Value.int 1 0, Value.int 0 0, Value.int 0 0, Value.int 3 0, rV (nat_lit 174), Value.bool true, Value.int 276 0, rV (nat_lit 175), Value.none, rV (nat_lit 176), rV (nat_lit 177), rV (nat_lit 178), Value.int 548 0, Value.int 122 0, sV "/claim/cut.py" (nat_lit 549)] },
  fnObj (mtAt 12) (Str.ofString "Headers.__repr__") Value.none Value.none (sV "cpy313.wsgiref.headers" (nat_lit 332)) 179,
  { cls := Value.type "tuple", data := Data.seq #[] },
  { cls := Value.none, data := Data.fields #[] },
  fnRaw (mtAt 13) (Str.ofString "Headers.__str__"),
  { cls := Value.type "code", data := Data.fields #[sV "__str__" (nat_lit 551), sV "Headers.__str__" (nat_lit 552), sV "/claim/cut.py" (nat_lit 553), Value.int 125 0, Value.int 1 0, Value.int 0 0, Value.int 0 0, Value.int 3 0, rV (nat_lit 181), Value.bool true, Value.int 276 0, rV (nat_lit 182), Value.none, Value.none, Value.none, rV (nat_lit 183), Value.int 554 0, Value.int 125 0, sV "/claim/cut.py" (nat_lit 555)] },
  fnObj (mtAt 13) (Str.ofString "Headers.__str__") Value.none Value.none (sV "cpy313.wsgiref.headers" (nat_lit 332)) 184,
  { cls := Value.type "tuple", data := Data.seq #[] },
  { cls := Value.none, data := Data.fields #[] },
  { cls := Value.type "tuple", data := Data.seq #[sV "self" (nat_lit 560)] },
  { cls := Value.type "tuple", data := Data.seq #[] },
  fnRaw (mtAt 14) (Str.ofString "Headers.__bytes__"),
  { cls := Value.type "code", data := Data.fields #[sV "__bytes__" (nat_lit 557), sV "Headers.__bytes__" (nat_lit 558), sV "/claim/cut.py" (nat_lit 559), Value.int 128 0, Value.int 1 0, Value.int 0 0, Value.int 0 0, Value.int 3 0, rV (nat_lit 186), Value.bool true, Value.int 276 0, rV (nat_lit 187), Value.none, rV (nat_lit 188), rV (nat_lit 189), rV (nat_lit 190), Value.int 561 0, Value.int 128 0, sV "/claim/cut.py" (nat_lit 562)] },
  fnObj (mtAt 14) (Str.ofString "Headers.__bytes__") Value.none Value.none (sV "cpy313.wsgiref.headers" (nat_lit 332)) 191,
  { cls := Value.type "tuple", data := Data.seq #[] },
  { cls := Value.none, data := Data.fields #[] },
  { cls := Value.type "tuple", data := Data.seq #[sV "self" (nat_lit 567), sV "name" (nat_lit 568), sV "value" (nat_lit 569)] },
  { cls := Value.type "tuple", data := Data.seq #[] },
  fnRaw (mtAt 15) (Str.ofString "Headers.setdefault"),
  { cls := Value.type "code", data := Data.fields #[sV "setdefault" (nat_lit 564), sV "Headers.setdefault" (nat_lit 565), sV "/claim/cut.py" (nat_lit 566), Value.int 131 0, Value.int 3 0, Value.int 0 0, Value.int 0 0, Value.int 3 0, rV (nat_lit 193), Value.bool true, Value.int 276 0, rV (nat_lit 194), Value.none, rV (nat_lit 195), rV (nat_lit 196), rV (nat_lit 197), Value.int 570 0, Value.int 131 0, sV "/claim/cut.py" (nat_lit 571)] },
  fnObj (mtAt 15) (Str.ofString "Headers.setdefault") Value.none Value.none (sV "cpy313.wsgiref.headers" (nat_lit 332)) 198,
  { cls := Value.type "tuple", data := Data.seq #[] },
  { cls := Value.none, data := Data.fields #[] },
  { cls := Value.type "tuple", data := Data.seq #[sV "self" (nat_lit 576), sV "_name" (nat_lit 577), sV "_value" (nat_lit 578), sV "_params" (nat_lit 579), sV "parts" (nat_lit 580), sV "k" (nat_lit 581), sV "v" (nat_lit 582)] },
  { cls := Value.type "tuple", data := Data.seq #[] },
  fnRaw (mtAt 16) (Str.ofString "Headers.add_header"),
  { cls := Value.type "code", data := Data.fields #[Value.str (Str.ofString "add_header") 573, Value.str (Str.ofString "Headers.add_header") 574, Value.str (Str.ofString "/claim/cut.py") 575, Value.int 134 0, Value.int 3 0, Value.int 0 0, Value.int 0 0, Value.int 11 0, Value.ref 200, Value.bool true, Value.int 276 0, Value.ref 201, Value.none, Value.ref 202, Value.ref 203, Value.ref 204, Value.int 583 0, Value.int 134 0, Value.str (Str.ofString "/claim/cut.py") 584] },
  fnObj (mtAt 16) (Str.ofString "Headers.add_header") Value.none Value.none (Value.str (Str.ofString "cpy313.wsgiref.headers") 332) 205,
  { cls := Value.type "tuple", data := Data.seq #[Value.str (Str.ofString "_headers") 586] },
  { cls := Value.type "dict", data := Data.dict #[{ hash := PyData.keyHash P (Str.ofString "__module__"), key := Value.str (Str.ofString "__module__") 445, val := Value.str (Str.ofString "cpy313.wsgiref.headers") 332 }, { hash := PyData.keyHash P (Str.ofString "__firstlineno__"), key := Value.str (Str.ofString "__firstlineno__") 449, val := Value.int 65 448 }, { hash := PyData.keyHash P (Str.ofString "__init__"), key := Value.str (Str.ofString "__init__") 459, val := Value.ref 103 }, { hash := PyData.keyHash P (Str.ofString "_convert_string_type"), key := Value.str (Str.ofString "_convert_string_type") 469, val := Value.ref 110 }, { hash := PyData.keyHash P (Str.ofString "__len__"), key := Value.str (Str.ofString "__len__") 476, val := Value.ref 117 }, { hash := PyData.keyHash P (Str.ofString "__setitem__"), key := Value.str (Str.ofString "__setitem__") 485, val := Value.ref 124 }, { hash := PyData.keyHash P (Str.ofString "__delitem__"), key := Value.str (Str.ofString "__delitem__") 491, val := Value.ref 129 }, { hash := PyData.keyHash P (Str.ofString "__getitem__"), key := Value.str (Str.ofString "__getitem__") 499, val := Value.ref 136 }, { hash := PyData.keyHash P (Str.ofString "__contains__"), key := Value.str (Str.ofString "__contains__") 507, val := Value.ref 143 }, { hash := PyData.keyHash P (Str.ofString "get_all"), key := Value.str (Str.ofString "get_all") 513, val := Value.ref 148 }, { hash := PyData.keyHash P (Str.ofString "get"), key := Value.str (Str.ofString "get") 524, val := Value.ref 156 }, { hash := PyData.keyHash P (Str.ofString "keys"), key := Value.str (Str.ofString "keys") 530, val := Value.ref 161 }, { hash := PyData.keyHash P (Str.ofString "values"), key := Value.str (Str.ofString "values") 536, val := Value.ref 166 }, { hash := PyData.keyHash P (Str.ofString "items"), key := Value.str (Str.ofString "items") 543, val := Value.ref 173 }, { hash := PyData.keyHash P (Str.ofString "__repr__"), key := Value.str (Str.ofString "__repr__") 550, val := Value.ref 180 }, { hash := PyData.keyHash P (Str.ofString "__str__"), key := Value.str (Str.ofString "__str__") 556, val := Value.ref 185 }, { hash := PyData.keyHash P (Str.ofString "__bytes__"), key := Value.str (Str.ofString "__bytes__") 563, val := Value.ref 192 }, { hash := PyData.keyHash P (Str.ofString "setdefault"), key := Value.str (Str.ofString "setdefault") 572, val := Value.ref 199 }, { hash := PyData.keyHash P (Str.ofString "add_header"), key := Value.str (Str.ofString "add_header") 585, val := Value.ref 206 }, { hash := PyData.keyHash P (Str.ofString "__static_attributes__"), key := Value.str (Str.ofString "__static_attributes__") 587, val := Value.ref 207 }, { hash := PyData.keyHash P (Str.ofString "__dict__"), key := Value.str (Str.ofString "__dict__") 589, val := Value.ref 210 }, { hash := PyData.keyHash P (Str.ofString "__weakref__"), key := Value.str (Str.ofString "__weakref__") 591, val := Value.ref 211 }, { hash := PyData.keyHash P (Str.ofString "__doc__"), key := Value.str (Str.ofString "__doc__") 592, val := Value.none }] 4 },
  { cls := Value.type "type", data := Data.cls { name := Str.ofString "Headers", bases := [Value.type "object"], mro := [Value.ref 209, Value.type "object"], ns := 208, qualname := Str.ofString "Headers" }, slots := #[none, none, some (Value.str (Str.ofString "Headers") 438), some (Value.str (Str.ofString "Headers") 446), some (Value.builtin "object.__new__"), some (Value.bool true)] },
  { cls := Value.type "getset_descriptor", data := Data.fields #[sV "__dict__" (nat_lit 588), rV (nat_lit 209), Value.builtin "function.__dict__", Value.builtin "function.__dict__#set"] },
  { cls := Value.type "getset_descriptor", data := Data.fields #[sV "__weakref__" (nat_lit 590), rV (nat_lit 209), Value.builtin "ExceptionGroup.__weakref__", Value.none] },
  { cls := Value.type "super", data := Data.fields #[rV (nat_lit 209), rV (nat_lit 209), rV (nat_lit 209)] },
  { cls := Value.type "builtin_function_or_method", data := Data.fields #[Value.builtin "object.__init_subclass__", rV (nat_lit 209)] },
  { cls := Value.type "tuple", data := Data.seq #[] },
  { cls := Value.none, data := Data.fields #[] },
  { cls := Value.type "tuple", data := Data.seq #[sV "text" (nat_lit 600)] },
  { cls := Value.type "tuple", data := Data.seq #[] },
  fnRaw (stAt 13) (Str.ofString "_raise_serialization_error"),
  { cls := Value.type "code", data := Data.fields #[sV "_raise_serialization_error" (nat_lit 597), sV "_raise_serialization_error" (nat_lit 598), sV "/claim/cut.py" (nat_lit 599), Value.int 148 0, Value.int 1 0, Value.int 0 0, Value.int 0 0, Value.int 3 0, rV (nat_lit 214), Value.bool true, Value.int 276 0, rV (nat_lit 215), Value.none, rV (nat_lit 216), rV (nat_lit 217), rV (nat_lit 218), Value.int 601 0, Value.int 148 0, sV "/claim/cut.py" (nat_lit 602)] },
  fnObj (stAt 13) (Str.ofString "_raise_serialization_error") Value.none Value.none (sV "cpy313.xml.etree.ElementTree" (nat_lit 595)) 219,
  { cls := Value.type "tuple", data := Data.seq #[] },
  { cls := Value.none, data := Data.fields #[] },
  { cls := Value.type "tuple", data := Data.seq #[sV "text" (nat_lit 607)] },
  { cls := Value.type "tuple", data := Data.seq #[] },
  fnRaw (stAt 14) (Str.ofString "_escape_cdata"),
  { cls := Value.type "code", data := Data.fields #[Value.str (Str.ofString "_escape_cdata") 604, Value.str (Str.ofString "_escape_cdata") 605, Value.str (Str.ofString "/claim/cut.py") 606, Value.int 150 0, Value.int 1 0, Value.int 0 0, Value.int 0 0, Value.int 3 0, Value.ref 221, Value.bool true, Value.int 276 0, Value.ref 222, Value.none, Value.ref 223, Value.ref 224, Value.ref 225, Value.int 608 0, Value.int 150 0, Value.str (Str.ofString "/claim/cut.py") 609] },
  fnObj (stAt 14) (Str.ofString "_escape_cdata") Value.none Value.none (Value.str (Str.ofString "cpy313.xml.etree.ElementTree") 595) 226,
  { cls := Value.type "tuple", data := Data.seq #[] },
  { cls := Value.none, data := Data.fields #[] },
  { cls := Value.type "tuple", data := Data.seq #[sV "text" (nat_lit 614)] },
  { cls := Value.type "tuple", data := Data.seq #[] },
  fnRaw (stAt 15) (Str.ofString "_escape_attrib"),
  { cls := Value.type "code", data := Data.fields #[Value.str (Str.ofString "_escape_attrib") 611, Value.str (Str.ofString "_escape_attrib") 612, Value.str (Str.ofString "/claim/cut.py") 613, Value.int 161 0, Value.int 1 0, Value.int 0 0, Value.int 0 0, Value.int 3 0, Value.ref 228, Value.bool true, Value.int 276 0, Value.ref 229, Value.none, Value.ref 230, Value.ref 231, Value.ref 232, Value.int 615 0, Value.int 161 0, Value.str (Str.ofString "/claim/cut.py") 616] },
  fnObj (stAt 15) (Str.ofString "_escape_attrib") Value.none Value.none (Value.str (Str.ofString "cpy313.xml.etree.ElementTree") 595) 233,
  { cls := Value.type "tuple", data := Data.seq #[] },
  { cls := Value.none, data := Data.fields #[] },
  { cls := Value.type "tuple", data := Data.seq #[sV "text" (nat_lit 621)] },
  { cls := Value.type "tuple", data := Data.seq #[] },
  fnRaw (stAt 16) (Str.ofString "_escape_cdata_c14n"),
  { cls := Value.type "code", data := Data.fields #[Value.str (Str.ofString "_escape_cdata_c14n") 618, Value.str (Str.ofString "_escape_cdata_c14n") 619, Value.str (Str.ofString "/claim/cut.py") 620, Value.int 180 0, Value.int 1 0, Value.int 0 0, Value.int 0 0, Value.int 3 0, Value.ref 235, Value.bool true, Value.int 276 0, Value.ref 236, Value.none, Value.ref 237, Value.ref 238, Value.ref 239, Value.int 622 0, Value.int 180 0, Value.str (Str.ofString "/claim/cut.py") 623] },
  fnObj (stAt 16) (Str.ofString "_escape_cdata_c14n") Value.none Value.none (Value.str (Str.ofString "cpy313.xml.etree.ElementTree") 595) 240,
  { cls := Value.type "tuple", data := Data.seq #[] },
  { cls := Value.none, data := Data.fields #[] },
  { cls := Value.type "tuple", data := Data.seq #[sV "text" (nat_lit 628)] },
  { cls := Value.type "tuple", data := Data.seq #[] },
  fnRaw (stAt 17) (Str.ofString "_escape_attrib_c14n"),
  { cls := Value.type "code", data := Data.fields #[Value.str (Str.ofString "_escape_attrib_c14n") 625, Value.str (Str.ofString "_escape_attrib_c14n") 626, Value.str (Str.ofString "/claim/cut.py") 627, Value.int 193 0, Value.int 1 0, Value.int 0 0, Value.int 0 0, Value.int 3 0, Value.ref 242, Value.bool true, Value.int 276 0, Value.ref 243, Value.none, Value.ref 244, Value.ref 245, Value.ref 246, Value.int 629 0, Value.int 193 0, Value.str (Str.ofString "/claim/cut.py") 630] },
  fnObj (stAt 17) (Str.ofString "_escape_attrib_c14n") Value.none Value.none (Value.str (Str.ofString "cpy313.xml.etree.ElementTree") 595) 247,
  { cls := Value.type "tuple", data := Data.seq #[] },
  { cls := Value.none, data := Data.fields #[] },
  { cls := Value.type "tuple", data := Data.seq #[sV "script" (nat_lit 637), sV "cells" (nat_lit 638), sV "k" (nat_lit 639), sV "lefts" (nat_lit 640), sV "words" (nat_lit 641), sV "ways" (nat_lit 642), sV "down" (nat_lit 643), sV "word" (nat_lit 644)] },
  { cls := Value.type "tuple", data := Data.seq #[] },
  fnRaw (stAt 19) (Str.ofString "_law_drawn"),
  { cls := Value.type "code", data := Data.fields #[Value.str (Str.ofString "_law_drawn") 634, Value.str (Str.ofString "_law_drawn") 635, Value.str (Str.ofString "/claim/cut.py") 636, Value.int 211 0, Value.int 1 0, Value.int 0 0, Value.int 0 0, Value.int 3 0, Value.ref 249, Value.bool true, Value.int 276 0, Value.ref 250, Value.none, Value.ref 251, Value.ref 252, Value.ref 253, Value.int 645 0, Value.int 211 0, Value.str (Str.ofString "/claim/cut.py") 646] },
  fnObj (stAt 19) (Str.ofString "_law_drawn") Value.none Value.none (Value.str (Str.ofString "law_uk0021_01") 632) 254,
  { cls := Value.type "tuple", data := Data.seq #[] },
  { cls := Value.none, data := Data.fields #[] },
  { cls := Value.type "tuple", data := Data.seq #[sV "text" (nat_lit 651), sV "way" (nat_lit 652)] },
  { cls := Value.type "tuple", data := Data.seq #[] },
  fnRaw (stAt 20) (Str.ofString "_law_hand"),
  { cls := Value.type "code", data := Data.fields #[Value.str (Str.ofString "_law_hand") 648, Value.str (Str.ofString "_law_hand") 649, Value.str (Str.ofString "/claim/cut.py") 650, Value.int 228 0, Value.int 2 0, Value.int 0 0, Value.int 0 0, Value.int 3 0, Value.ref 256, Value.bool true, Value.int 276 0, Value.ref 257, Value.none, Value.ref 258, Value.ref 259, Value.ref 260, Value.int 653 0, Value.int 228 0, Value.str (Str.ofString "/claim/cut.py") 654] },
  fnObj (stAt 20) (Str.ofString "_law_hand") Value.none Value.none (Value.str (Str.ofString "law_uk0021_01") 632) 261,
  { cls := Value.type "tuple", data := Data.seq #[] },
  { cls := Value.none, data := Data.fields #[] },
  fnRaw (stAt 21) (Str.ofString "_law_spelled"),
  { cls := Value.type "code", data := Data.fields #[Value.str (Str.ofString "_law_spelled") 656, Value.str (Str.ofString "_law_spelled") 657, Value.str (Str.ofString "/claim/cut.py") 658, Value.int 236 0, Value.int 2 0, Value.int 0 0, Value.int 0 0, Value.int 3 0, Value.ref 263, Value.bool true, Value.int 276 0, Value.ref 264, Value.none, Value.none, Value.none, Value.ref 265, Value.int 659 0, Value.int 236 0, Value.str (Str.ofString "/claim/cut.py") 660] },
  fnObj (stAt 21) (Str.ofString "_law_spelled") Value.none Value.none (Value.str (Str.ofString "law_uk0021_01") 632) 266,
  { cls := Value.type "tuple", data := Data.seq #[] },
  { cls := Value.none, data := Data.fields #[] },
  fnRaw (stAt 22) (Str.ofString "_law_page"),
  { cls := Value.type "code", data := Data.fields #[Value.str (Str.ofString "_law_page") 662, Value.str (Str.ofString "_law_page") 663, Value.str (Str.ofString "/claim/cut.py") 664, Value.int 239 0, Value.int 5 0, Value.int 0 0, Value.int 0 0, Value.int 3 0, Value.ref 268, Value.bool true, Value.int 276 0, Value.ref 269, Value.none, Value.none, Value.none, Value.ref 270, Value.int 665 0, Value.int 239 0, Value.str (Str.ofString "/claim/cut.py") 666] },
  fnObj (stAt 22) (Str.ofString "_law_page") Value.none Value.none (Value.str (Str.ofString "law_uk0021_01") 632) 271,
  { cls := Value.type "tuple", data := Data.seq #[] },
  { cls := Value.none, data := Data.fields #[] },
  { cls := Value.type "tuple", data := Data.seq #[sV "page" (nat_lit 671), sV "places" (nat_lit 672), sV "ends" (nat_lit 673), sV "names" (nat_lit 674), sV "down" (nat_lit 675), sV "at" (nat_lit 676), sV "piece" (nat_lit 677), sV "skip" (nat_lit 678)] },
  { cls := Value.type "tuple", data := Data.seq #[] },
  fnRaw (stAt 23) (Str.ofString "_law_read"),
  { cls := Value.type "code", data := Data.fields #[Value.str (Str.ofString "_law_read") 668, Value.str (Str.ofString "_law_read") 669, Value.str (Str.ofString "/claim/cut.py") 670, Value.int 246 0, Value.int 1 0, Value.int 0 0, Value.int 0 0, Value.int 3 0, Value.ref 273, Value.bool true, Value.int 276 0, Value.ref 274, Value.none, Value.ref 275, Value.ref 276, Value.ref 277, Value.int 679 0, Value.int 246 0, Value.str (Str.ofString "/claim/cut.py") 680] },
  fnObj (stAt 23) (Str.ofString "_law_read") Value.none Value.none (Value.str (Str.ofString "law_uk0021_01") 632) 278,
  { cls := Value.type "tuple", data := Data.seq #[] },
  { cls := Value.none, data := Data.fields #[] },
  { cls := Value.type "tuple", data := Data.seq #[sV "names" (nat_lit 685), sV "places" (nat_lit 686), sV "turned" (nat_lit 687), sV "index" (nat_lit 688), sV "k" (nat_lit 689)] },
  { cls := Value.type "tuple", data := Data.seq #[] },
  fnRaw (stAt 24) (Str.ofString "_law_index"),
  { cls := Value.type "code", data := Data.fields #[Value.str (Str.ofString "_law_index") 682, Value.str (Str.ofString "_law_index") 683, Value.str (Str.ofString "/claim/cut.py") 684, Value.int 264 0, Value.int 3 0, Value.int 0 0, Value.int 0 0, Value.int 3 0, Value.ref 280, Value.bool true, Value.int 276 0, Value.ref 281, Value.none, Value.ref 282, Value.ref 283, Value.ref 284, Value.int 690 0, Value.int 264 0, Value.str (Str.ofString "/claim/cut.py") 691] },
  fnObj (stAt 24) (Str.ofString "_law_index") Value.none Value.none (Value.str (Str.ofString "law_uk0021_01") 632) 285,
  { cls := Value.type "tuple", data := Data.seq #[] },
  { cls := Value.none, data := Data.fields #[] },
  { cls := Value.type "tuple", data := Data.seq #[sV "texts" (nat_lit 696), sV "row" (nat_lit 697), sV "text" (nat_lit 698)] },
  { cls := Value.type "tuple", data := Data.seq #[] },
  fnRaw (stAt 25) (Str.ofString "_law_row"),
  { cls := Value.type "code", data := Data.fields #[Value.str (Str.ofString "_law_row") 693, Value.str (Str.ofString "_law_row") 694, Value.str (Str.ofString "/claim/cut.py") 695, Value.int 269 0, Value.int 1 0, Value.int 0 0, Value.int 0 0, Value.int 3 0, Value.ref 287, Value.bool true, Value.int 276 0, Value.ref 288, Value.none, Value.ref 289, Value.ref 290, Value.ref 291, Value.int 699 0, Value.int 269 0, Value.str (Str.ofString "/claim/cut.py") 700] },
  fnObj (stAt 25) (Str.ofString "_law_row") Value.none Value.none (Value.str (Str.ofString "law_uk0021_01") 632) 292,
  { cls := Value.type "tuple", data := Data.seq #[] },
  { cls := Value.none, data := Data.fields #[] },
  { cls := Value.type "tuple", data := Data.seq #[sV "x" (nat_lit 705), sV "y" (nat_lit 706), sV "places" (nat_lit 707), sV "ends" (nat_lit 708), sV "part" (nat_lit 709)] },
  { cls := Value.type "tuple", data := Data.seq #[] },
  fnRaw (stAt 26) (Str.ofString "_law_common"),
  { cls := Value.type "code", data := Data.fields #[Value.str (Str.ofString "_law_common") 702, Value.str (Str.ofString "_law_common") 703, Value.str (Str.ofString "/claim/cut.py") 704, Value.int 275 0, Value.int 4 0, Value.int 0 0, Value.int 0 0, Value.int 3 0, Value.ref 294, Value.bool true, Value.int 276 0, Value.ref 295, Value.none, Value.ref 296, Value.ref 297, Value.ref 298, Value.int 710 0, Value.int 275 0, Value.str (Str.ofString "/claim/cut.py") 711] },
  fnObj (stAt 26) (Str.ofString "_law_common") Value.none Value.none (Value.str (Str.ofString "law_uk0021_01") 632) 299,
  { cls := Value.type "tuple", data := Data.seq #[] },
  { cls := Value.none, data := Data.fields #[] },
  fnRaw (stAt 27) (Str.ofString "_law_nearest"),
  { cls := Value.type "code", data := Data.fields #[Value.str (Str.ofString "_law_nearest") 713, Value.str (Str.ofString "_law_nearest") 714, Value.str (Str.ofString "/claim/cut.py") 715, Value.int 280 0, Value.int 5 0, Value.int 0 0, Value.int 0 0, Value.int 3 0, Value.ref 301, Value.bool true, Value.int 276 0, Value.ref 302, Value.none, Value.none, Value.none, Value.ref 303, Value.int 716 0, Value.int 280 0, Value.str (Str.ofString "/claim/cut.py") 717] },
  fnObj (stAt 27) (Str.ofString "_law_nearest") Value.none Value.none (Value.str (Str.ofString "law_uk0021_01") 632) 304,
  { cls := Value.type "tuple", data := Data.seq #[] },
  { cls := Value.none, data := Data.fields #[] },
  { cls := Value.type "tuple", data := Data.seq #[sV "part" (nat_lit 722), sV "x" (nat_lit 723)] },
  { cls := Value.type "tuple", data := Data.seq #[] },
  fnRaw (stAt 28) (Str.ofString "_law_tag"),
  { cls := Value.type "code", data := Data.fields #[Value.str (Str.ofString "_law_tag") 719, Value.str (Str.ofString "_law_tag") 720, Value.str (Str.ofString "/claim/cut.py") 721, Value.int 283 0, Value.int 2 0, Value.int 0 0, Value.int 0 0, Value.int 3 0, Value.ref 306, Value.bool true, Value.int 276 0, Value.ref 307, Value.none, Value.ref 308, Value.ref 309, Value.ref 310, Value.int 724 0, Value.int 283 0, Value.str (Str.ofString "/claim/cut.py") 725] },
  fnObj (stAt 28) (Str.ofString "_law_tag") Value.none Value.none (Value.str (Str.ofString "law_uk0021_01") 632) 311,
  { cls := Value.type "tuple", data := Data.seq #[] },
  { cls := Value.none, data := Data.fields #[] },
  fnRaw (stAt 29) (Str.ofString "_law_found"),
  { cls := Value.type "code", data := Data.fields #[Value.str (Str.ofString "_law_found") 727, Value.str (Str.ofString "_law_found") 728, Value.str (Str.ofString "/claim/cut.py") 729, Value.int 285 0, Value.int 5 0, Value.int 0 0, Value.int 0 0, Value.int 3 0, Value.ref 313, Value.bool true, Value.int 276 0, Value.ref 314, Value.none, Value.none, Value.none, Value.ref 315, Value.int 730 0, Value.int 285 0, Value.str (Str.ofString "/claim/cut.py") 731] },
  fnObj (stAt 29) (Str.ofString "_law_found") Value.none Value.none (Value.str (Str.ofString "law_uk0021_01") 632) 316,
  { cls := Value.type "tuple", data := Data.seq #[] },
  { cls := Value.none, data := Data.fields #[] },
  fnRaw (stAt 30) (Str.ofString "_law_whole"),
  { cls := Value.type "code", data := Data.fields #[Value.str (Str.ofString "_law_whole") 733, Value.str (Str.ofString "_law_whole") 734, Value.str (Str.ofString "/claim/cut.py") 735, Value.int 293 0, Value.int 2 0, Value.int 0 0, Value.int 0 0, Value.int 3 0, Value.ref 318, Value.bool true, Value.int 276 0, Value.ref 319, Value.none, Value.none, Value.none, Value.ref 320, Value.int 736 0, Value.int 293 0, Value.str (Str.ofString "/claim/cut.py") 737] },
  fnObj (stAt 30) (Str.ofString "_law_whole") Value.none Value.none (Value.str (Str.ofString "law_uk0021_01") 632) 321,
  { cls := Value.type "tuple", data := Data.seq #[] },
  { cls := Value.none, data := Data.fields #[] },
  { cls := Value.type "tuple", data := Data.seq #[sV "lefts" (nat_lit 742), sV "whole" (nat_lit 743), sV "parts" (nat_lit 744), sV "k" (nat_lit 745), sV "part" (nat_lit 746)] },
  { cls := Value.type "tuple", data := Data.seq #[] },
  fnRaw (stAt 31) (Str.ofString "_law_parts"),
  { cls := Value.type "code", data := Data.fields #[Value.str (Str.ofString "_law_parts") 739, Value.str (Str.ofString "_law_parts") 740, Value.str (Str.ofString "/claim/cut.py") 741, Value.int 304 0, Value.int 2 0, Value.int 0 0, Value.int 0 0, Value.int 3 0, Value.ref 323, Value.bool true, Value.int 276 0, Value.ref 324, Value.none, Value.ref 325, Value.ref 326, Value.ref 327, Value.int 747 0, Value.int 304 0, Value.str (Str.ofString "/claim/cut.py") 748] },
  fnObj (stAt 31) (Str.ofString "_law_parts") Value.none Value.none (Value.str (Str.ofString "law_uk0021_01") 632) 328,
  { cls := Value.type "tuple", data := Data.seq #[] },
  { cls := Value.none, data := Data.fields #[] },
  { cls := Value.type "tuple", data := Data.seq #[sV "row" (nat_lit 753), sV "place" (nat_lit 754), sV "end" (nat_lit 755), sV "rest" (nat_lit 756)] },
  { cls := Value.type "tuple", data := Data.seq #[] },
  fnRaw (stAt 32) (Str.ofString "_law_has"),
  { cls := Value.type "code", data := Data.fields #[Value.str (Str.ofString "_law_has") 750, Value.str (Str.ofString "_law_has") 751, Value.str (Str.ofString "/claim/cut.py") 752, Value.int 312 0, Value.int 3 0, Value.int 0 0, Value.int 0 0, Value.int 3 0, Value.ref 330, Value.bool true, Value.int 276 0, Value.ref 331, Value.none, Value.ref 332, Value.ref 333, Value.ref 334, Value.int 757 0, Value.int 312 0, Value.str (Str.ofString "/claim/cut.py") 758] },
  fnObj (stAt 32) (Str.ofString "_law_has") Value.none Value.none (Value.str (Str.ofString "law_uk0021_01") 632) 335,
  { cls := Value.type "tuple", data := Data.seq #[] },
  { cls := Value.none, data := Data.fields #[] },
  fnRaw (stAt 33) (Str.ofString "_law_least"),
  { cls := Value.type "code", data := Data.fields #[Value.str (Str.ofString "_law_least") 760, Value.str (Str.ofString "_law_least") 761, Value.str (Str.ofString "/claim/cut.py") 762, Value.int 315 0, Value.int 3 0, Value.int 0 0, Value.int 0 0, Value.int 3 0, Value.ref 337, Value.bool true, Value.int 276 0, Value.ref 338, Value.none, Value.none, Value.none, Value.ref 339, Value.int 763 0, Value.int 315 0, Value.str (Str.ofString "/claim/cut.py") 764] },
  fnObj (stAt 33) (Str.ofString "_law_least") Value.none Value.none (Value.str (Str.ofString "law_uk0021_01") 632) 340,
  { cls := Value.type "tuple", data := Data.seq #[] },
  { cls := Value.none, data := Data.fields #[] },
  fnRaw (stAt 34) (Str.ofString "law"),
  { cls := Value.type "code", data := Data.fields #[Value.str (Str.ofString "law") 766, Value.str (Str.ofString "law") 767, Value.str (Str.ofString "/claim/cut.py") 768, Value.int 322 0, Value.int 1 0, Value.int 0 0, Value.int 0 0, Value.int 3 0, Value.ref 342, Value.bool true, Value.int 276 0, Value.ref 343, Value.none, Value.none, Value.none, Value.ref 344, Value.int 769 0, Value.int 322 0, Value.str (Str.ofString "/claim/cut.py") 770] },
  fnObj (stAt 34) (Str.ofString "law") Value.none Value.none (Value.str (Str.ofString "law_uk0021_01") 632) 345] } }
end Mine
/- J8 -/
namespace Mine
open PySem PySem.W PySem.W.X PyProof.Rows
/- the head in pieces, each by the library's quick twins: the opening, the running of the text, the looks at the heap -/
noncomputable def keepI : List Nat := [0, 1, 7, 8, 9, 11, 13, 14, 15, 16, 17, 19, 20, 21, 22, 23, 24, 25, 26, 27, 28, 29, 30, 31, 32, 33, 34]
noncomputable def view : Program := { PySem.Challenge.pw_uk0021_01 with main := { PySem.Challenge.pw_uk0021_01.main with body := keepI.filterMap fun i => nth i PySem.Challenge.pw_uk0021_01.main.body } }
noncomputable def looseN : List Str := [Str.ofString "insort_right", Str.ofString "bisect_right", Str.ofString "bisect_left", Str.ofString "tspecials", Str.ofString "_name_disallowed_re", Str.ofString "_value_disallowed_re", Str.ofString "_formatparam"]
noncomputable def sE (w : World) (os : OsState) : Shared := ⟨H1 w.params, #[], {}, 772, os⟩
theorem pairs {α β : Type} {a a' : α} {b b' : β} (h : a = a') (k : b = b') : (a, b) = (a', b') := by rw [h, k]
theorem head_open (w : World) : (fencedOpening treeTable PySem.Challenge.pw_uk0021_01 w 3706).map (fun s => (s.heap, s.gens, s.drawn, s.toks)) = some (H0 w.params, #[], {}, 276) := by
  unfold fencedOpening; rw [Fast.te10274390034422433532, Fast.te14364793385576792824]; kernel_rfl
theorem head_run (w : World) (os : OsState) : topRun treeTable PySem.Challenge.pw_uk0021_01 w 28 (some (.ref 6)) 2000 ⟨H0 w.params, #[], {}, 276, os⟩ (topStub PySem.Challenge.pw_uk0021_01) = some ⟨H1 w.params, #[], {}, 772, os⟩ := by
  rw [Fast.te14082659384304107361, Fast.te14364793385576792824]; kernel_rfl
theorem head_ends (w : World) (os : OsState) : (staticsOk (importedModules PySem.Challenge.pw_uk0021_01.main.body) (H0 w.params) (H1 w.params) && namesBound PySem.Challenge.pw_uk0021_01 (H1 w.params) && gensDone ⟨H1 w.params, #[], {}, 772, os⟩ && laidKept (H0 w.params) (H1 w.params)) = true := by kernel_rfl
theorem see1 (w : World) (os : OsState) : seen ((recsOf view).map (·.name)) (ownsOf view) [] { (sE w os) with gens := #[] } = expectedOf view := by kernel_rfl
theorem see2 (w : World) (os : OsState) : (sE w os).heap.bltView = bltViewBooted := by kernel_rfl
theorem see3 (w : World) (os : OsState) : (sE w os).heap.keysOk (looseW view looseN) ((recsOf view).map (·.name)) ((litsOf view).map (·.1)) ((clssOf view (looseW view looseN)).map (·.name)) = true := by
  rw [Fast.te10880121769531294198]; kernel_rfl
theorem see4 (w : World) (os : OsState) : (sE w os).heap.accountedOkI (importedModules PySem.Challenge.pw_uk0021_01.main.body) = true := by
  rw [Fast.te14722251495701143533]; kernel_rfl
theorem see5 (w : World) (os : OsState) : tablesOk view (sE w os).heap = true := by kernel_rfl
theorem see6 (w : World) (os : OsState) : (xlAt view [] (sE w os) && recOk [] (sE w os)) = true := by kernel_rfl
theorem see7 (w : World) (os : OsState) : tabsOk view (sE w os) = true := by kernel_rfl
theorem see8 (w : World) (os : OsState) : pinSeenD view (drecsOf view) (sE w os) = pinGoodD (drecsOf view) := by rw [Fast.te16090120013241838585]; kernel_rfl
theorem see9 (w : World) (os : OsState) : plainSeenE view (looseW view looseN) (sE w os) = plainGoodE view (looseW view looseN) := by kernel_rfl
theorem see10 (w : World) (os : OsState) : plainSeenD view looseN (sE w os) = plainGoodD view looseN := by kernel_rfl
theorem see11 (w : World) (os : OsState) : wideSeen view (sE w os) = wideGood view := by rw [Fast.te7317090234206586261]; kernel_rfl
theorem see12 (w : World) (os : OsState) : clsSeenW view looseN (sE w os) = clsGoodW view looseN := by rw [Fast.te7369524293546568484]; kernel_rfl
theorem see13 (w : World) (os : OsState) : obsZ asK (sE w os) = valZ Kh 347 772 w := by kernel_rfl
theorem seen_all (w : World) (os : OsState) : openSeen view looseN (importedModules PySem.Challenge.pw_uk0021_01.main.body) (fun s => xlAt view [] s && recOk [] s) true (sE w os) = openGood view looseN := by
  delta openSeen openGood
  exact pairs (see1 w os) (pairs (see2 w os) (pairs (look_both (look_both (look_both (look_both (look_both (look_both (see3 w os) (see4 w os)) (by kernel_rfl)) (by kernel_rfl)) (see5 w os)) (see6 w os)) (by kernel_rfl)) (pairs (see7 w os) (pairs (see8 w os) (pairs (see9 w os) (pairs (see10 w os) (pairs (see11 w os) (see12 w os))))))))
theorem headL : LeftO PySem.Challenge.pw_uk0021_01 view looseN (fun s => xlAt view [] s && recOk [] s) (obsZ asK) (valZ Kh 347 772) 3706 :=
  LeftO.of_pieces (H₀ := H0) (H₁ := H1) (M := 2000) head_open (fun w => by kernel_rfl) head_run (by rfl) fun w => funext fun os => pairs (head_ends w os) (pairs (seen_all w os) (see13 w os))
end Mine
/- J5 -/
namespace Mine
open PySem PySem.W PySem.W.X PyProof.Rows
/- the law's own looks, in pieces, each by the library's quick twin of the function it asks -/
theorem said1 : sreFenced PySem.Challenge.rw_uk0021_01.row.prog.main = true := by rw [Fast.te11788848310118352699]; kernel_rfl
theorem said2 : ((moduleNames PySem.Challenge.rw_uk0021_01.row.prog.main.body).isEmpty || lookedIntoSs (moduleNames PySem.Challenge.rw_uk0021_01.row.prog.main.body) PySem.Challenge.rw_uk0021_01.row.prog.main.body) = true := by
  rw [Fast.te12862048085361865435, Fast.te9807087744658564304]; kernel_rfl
theorem said3 : namesResolve PySem.Challenge.rw_uk0021_01.row.prog = true := by rw [Fast.te8377067652309620493]; kernel_rfl
theorem said4 : PySem.Challenge.rw_uk0021_01.row.prog.boundNames.all (fun n => !worldNames.contains n) = true := by rw [Fast.te18344453789297297638, Fast.te14412699480532031325]; kernel_rfl
theorem said5 : noRoadLSs { strict := !(importedModules PySem.Challenge.rw_uk0021_01.row.prog.main.body).all cThrough.contains, foot := none, bare := (["vars", "dir", "locals"] : List Str).filter (readsOut PySem.Challenge.rw_uk0021_01.row.prog PySem.Challenge.rw_uk0021_01.row.prog.main.body) } PySem.Challenge.rw_uk0021_01.row.prog.main.body = true := by
  rw [Fast.te8326940854005059898, Fast.te13343964577679436407]; kernel_rfl
theorem said6 : (namesMeet PySem.Challenge.rw_uk0021_01.row.prog PySem.Challenge.rw_uk0021_01.row.prog.main.body fun _ n => attrL n) = true := by
  rw [Fast.te17119622794617984870, Fast.te17868728402115742887]; kernel_rfl
theorem said7 : looksOpen PySem.Challenge.rw_uk0021_01.row.prog = true := look_both (look_both (look_both (look_both (look_both said1 said2) said3) said4) said5) said6
theorem said8 : PySem.Challenge.rw_uk0021_01.row.wellSaid = true := by
  delta OpenRow.wellSaid
  refine look_both (look_both ?_ (by kernel_rfl)) (by kernel_rfl)
  delta OpenRow.partSaid
  repeat' with_reducible refine look_both ?_ ?_
  all_goals first | with_reducible exact said7 | kernel_rfl
theorem said9 : noRoadLSs { strict := true, foot := some PySem.Challenge.rw_uk0021_01.bound', writes := PySem.Challenge.rw_uk0021_01.writes, may := PySem.Challenge.rw_uk0021_01.may } PySem.Challenge.rw_uk0021_01.footing = true := by rw [Fast.te8326940854005059898, Fast.te797321630700447069]; kernel_rfl
theorem said10 : PySem.Challenge.rw_uk0021_01.bound'.all (fun n => !builtinNamed n || PySem.Challenge.rw_uk0021_01.about == [n] || !PySem.Challenge.rw_uk0021_01.reads n) = true := by rw [Fast.te797321630700447069, Fast.named_eq, Fast.te6984425678791042302]; kernel_rfl
theorem said11 : (PySem.Challenge.rw_uk0021_01.prog.main.body.flatMap importedNames).all (fun n => !PySem.Challenge.rw_uk0021_01.reads n || (drawsOf n PySem.Challenge.rw_uk0021_01.prog.main.body).all fun mn => mn.2 != ("attrgetter" : Str) && mn.2 != ("methodcaller" : Str)) = true := by rw [Fast.te6984425678791042302]; kernel_rfl
theorem said12 : namesMeet PySem.Challenge.rw_uk0021_01.prog PySem.Challenge.rw_uk0021_01.footing (fun sc n => (!(["type", "isinstance", "issubclass", "getattr", "hasattr"] : List Str).contains n || sc.names.lookup n == some .globalImplicit) &&
    (PySem.Challenge.rw_uk0021_01.may != some n || sc.kind == .module || sc.names.lookup n == some .globalImplicit)) = true := by rw [Fast.te17119622794617984870]; kernel_rfl
theorem said13 : PySem.Challenge.rw_uk0021_01.own.all (fun n => !builtinNamed n) = true := by rw [Fast.te10792542408131684335, Fast.named_eq]; kernel_rfl
theorem said14 : namesMeet PySem.Challenge.rw_uk0021_01.prog PySem.Challenge.rw_uk0021_01.above (fun _ n => !PySem.Challenge.rw_uk0021_01.own.contains n) = true := by rw [Fast.te17119622794617984870, Fast.te10792542408131684335]; kernel_rfl
theorem said15 : (namesMeet PySem.Challenge.rw_uk0021_01.prog PySem.Challenge.rw_uk0021_01.footing fun sc n => sc.kind == .module || sc.names.lookup n != some .globalExplicit) = true := by rw [Fast.te17119622794617984870]; kernel_rfl
theorem said16 : noClassBlock PySem.Challenge.rw_uk0021_01.prog PySem.Challenge.rw_uk0021_01.footing = true := by rw [Fast.te8179353310426384613]; kernel_rfl
theorem said17 : PySem.Challenge.rw_uk0021_01.namesIt = true := by rw [Fast.te16286561074155671207]; kernel_rfl
theorem law_said : PySem.Challenge.rw_uk0021_01.wellSaid = true := by
  delta OpenLaw.wellSaid
  repeat' with_reducible refine look_both ?_ ?_
  all_goals first | with_reducible exact said8 | with_reducible exact said9 | with_reducible exact said10 | with_reducible exact said11 | with_reducible exact said12 | with_reducible exact said13 | with_reducible exact said14 | with_reducible exact said15 | with_reducible exact said16 | with_reducible exact said17 | kernel_rfl
end Mine
/- Tk -/
namespace Mine
open PySem PySem.W PySem.Calls PyProof.Rows
theorem runs_toks {M : Model} {Γ : Ctx} {p : Pos} {t : Sem Fin} {fs : List Frame} {s s' : Shared} {e : End} (h : Runs M Γ p t fs s e s') : s.toks ≤ s'.toks := by
  induction h
  all_goals first
    | exact Nat.le_refl _
    | assumption
    | (rename_i h; exact Nat.le_trans (Nat.le_succ _) h)
    | (rename_i h1 h2; exact Nat.le_trans h1 h2)
theorem wp_toks {α : Type} {M : Model} {Γ : Ctx} {E : Value → Pos → Shared → Prop} (n : Nat) : ∀ (t : Sem α) (Q : α → Pos → Shared → Prop) (p : Pos) (s : Shared), n ≤ s.toks → Sem.wp M Γ t (fun a p s' => n ≤ s'.toks → Q a p s') E p s → Sem.wp M Γ t Q E p s := by
  intro t
  induction t with
  | pure a => intro Q p s hn h; exact h hn
  | raise e => intro Q p s hn h; exact h
  | unsupported w => intro Q p s hn h; exact h
  | finish e => intro Q p s hn h; exact h
  | rule t k ih => intro Q p s hn h; exact ih _ Q p s hn h
  | «at» p' k ih => intro Q p s hn h; exact ih _ Q p' s hn h
  | load a part k ih => intro Q p s hn h; obtain ⟨o, ho, h⟩ := h; exact ⟨o, ho, ih _ Q p s hn h⟩
  | update a part f k ih => intro Q p s hn h; exact ⟨h.1, ih _ Q p _ hn h.2⟩
  | loadIfAlive a k ih => intro Q p s hn h; exact ih _ Q p s hn h
  | point l k ih => intro Q p s hn h; exact ih _ Q p s hn h
  | register a k ih => intro Q p s hn h; exact h
  | alloc o k ih => intro Q p s hn h; exact ih _ Q p _ hn h
  | fresh k ih => intro Q p s hn h; exact ih _ Q p _ (Nat.le_succ_of_le hn) h
  | ask k ih => intro Q p s hn h; exact ih _ Q p s hn h
  | choose src m k ih => intro Q p s hn h; exact ⟨h.1, ih _ Q p _ hn h.2⟩
  | os q l k ih => intro Q p s hn h; exact ih _ Q p _ hn h
  | call c hd g l k ih => intro Q p s hn h; obtain ⟨r, s', hr, h⟩ := h; exact ⟨r, s', hr, ih _ Q p s' (Nat.le_trans hn (runs_toks hr)) h⟩
  | handled own k ih => intro Q p s hn h; exact ih _ Q p s hn h
  | genState g k ih => intro Q p s hn h; obtain ⟨st, hs, h⟩ := h; exact ⟨st, hs, ih _ Q p s hn h⟩
  | newGen c k ih => intro Q p s hn h; exact ih _ Q p _ hn h
  | resume g r l k ih =>
    intro Q p s hn h
    obtain ⟨res, s', hw, h⟩ := h
    refine ⟨res, s', hw, ih _ Q p s' (Nat.le_trans hn ?_) h⟩
    unfold Wakes at hw
    split at hw
    · exact hw.elim
    · split at hw
      · obtain ⟨e, s1, hr, _, _, rfl⟩ := hw; have := runs_toks hr; exact this
      · obtain ⟨_, rfl⟩ := hw; exact Nat.le_refl _
      · obtain ⟨_, rfl⟩ := hw; exact Nat.le_refl _
    · obtain ⟨e, s1, hr, _, _, rfl⟩ := hw; have := runs_toks hr; exact this
    · obtain ⟨_, rfl⟩ := hw; exact Nat.le_refl _
    · obtain ⟨_, rfl⟩ := hw; exact Nat.le_refl _
  | yield v g l k ih => intro Q p s hn h; exact h
  | stack k ih => intro Q p s hn h; exact ih _ Q p s hn h
  | fork c k ih => intro Q p s hn h; exact h
  | thread k ih => intro Q p s hn h; exact ih _ Q p s hn h
  | await a f d l k ih => intro Q p s hn h; exact h
/-- tokens are never told twice: the count never falls -/
theorem wpAny_gain {α : Type} {M : Model} {A : Around} {t : Sem α} {Q : α → Shared → Prop} {E : Value → Shared → Prop} {s : Shared} (hp : 0 < s.toks) (h : wpAny M A t (fun a s' => 0 < s'.toks → Q a s') E s) : wpAny M A t Q E s :=
  fun Γ p hΓ => wp_toks 1 t _ p s hp (h Γ p hΓ)
end Mine
/- Core -/
namespace Mine
open PySem PySem.W PySem.Calls PyProof.Rows
/-- a value without its token -/
noncomputable def er : Value → Value
  | .int i _ => .int i 0
  | .float b _ => .float b 0
  | .str s _ => .str s 0
  | .bytes b _ => .bytes b 0
  | v => v
/-- what is known of an object -/
inductive AO where
  | list (vs : List Value)
  | tup (vs : List Value)
  | attr (name : Str) (v : Value)
  | is (o : Obj)
noncomputable def AO.Is : AO → Obj → Prop
  | .list vs, o => ∃ its n, o = { cls := .type "list", data := .seq its n } ∧ its.toList.map er = vs
  | .tup vs, o => ∃ its n, o = { cls := .type "tuple", data := .seq its n } ∧ its.toList.map er = vs
  | .attr x v, o => ∃ h t u n, o = { cls := .type "dict", data := .dict #[⟨h, .str x t, u⟩] n } ∧ er u = v
  | .is o', o => o = o' ∧ o.isFreed = false
noncomputable abbrev FM := List (Str × Value)
noncomputable abbrev AH := List (Addr × AO)
noncomputable abbrev Base := Addr → Option Obj
structure Gh where
  prog : Program
  w : World
  K : Frag
  h0 : Heap
  os : OsState
  mg : Str → Option Value
  mb : Str → Option Value
structure Gh.Ok (g : Gh) : Prop where
  hK : g.K.In g.h0
  hg : g.h0.Ns mainGlobals g.mg
  hb : g.h0.Ns builtinsNs g.mb
  nolimit : g.h0.NoLimit
  nodigits : ∃ mc, g.h0.Ns cStatics mc ∧ mc "sys.int_max_str_digits" = none
  builtins : ∀ x : Str, x ≠ "__name__" → g.mb x = bootBuiltins x
structure OkA (k : Nat) (A : Around) : Prop where
  handled : A.handled = none
  depth : A.depth + k ≤ 800
  units : A.units + 10 * k ≤ 9000
structure SS (g : Gh) (B : Base) (σ : AH) (s : Shared) : Prop where
  ok : g.Ok
  ge : ∀ a o, g.h0.get? a = some o → B a = some o
  keep : ∀ a o, B a = some o → s.heap.get? a = some o
  nd : (σ.map Prod.fst).Nodup
  own : ∀ p ∈ σ, B p.1 = none ∧ ∃ o, s.heap.get? p.1 = some o ∧ p.2.Is o
  os : s.os = g.os
  gens : s.gens = #[]
  pos : 0 < s.toks
theorem AO.Is.live {ao : AO} {o : Obj} (h : ao.Is o) : o.isFreed = false := by
  cases ao with
  | list vs => obtain ⟨its, n, rfl, _⟩ := h; rfl
  | tup vs => obtain ⟨its, n, rfl, _⟩ := h; rfl
  | attr x v => obtain ⟨a, b, c, d, rfl, _⟩ := h; rfl
  | is o' => exact h.2
theorem SS.h0 {g : Gh} {B : Base} {σ : AH} {s : Shared} (S : SS g B σ s) : ∀ a o, g.h0.get? a = some o → s.heap.get? a = some o := fun a o e => S.keep a o (S.ge a o e)
theorem SS.tok {g : Gh} {B : Base} {σ : AH} {s : Shared} (S : SS g B σ s) (t : Nat) (h : 0 < t := by first | exact Nat.succ_pos _ | assumption) : SS g B σ { s with toks := t } := ⟨S.ok, S.ge, S.keep, S.nd, S.own, S.os, S.gens, h⟩
/-- less is known -/
theorem SS.sub {g : Gh} {B : Base} {σ σ' : AH} {s : Shared} (S : SS g B σ s) (h : σ'.Sublist σ) : SS g B σ' s :=
  ⟨S.ok, S.ge, S.keep, S.nd.sublist (h.map _), fun p hp => S.own p (h.subset hp), S.os, S.gens, S.pos⟩
theorem SS.get {g : Gh} {B : Base} {σ : AH} {s : Shared} (S : SS g B σ s) {a : Addr} {ao : AO} (h : (a, ao) ∈ σ) : ∃ o, s.heap.get? a = some o ∧ ao.Is o := (S.own _ h).2
theorem SS.new {g : Gh} {B : Base} {σ : AH} {s : Shared} (S : SS g B σ s) : B s.heap.objs.size = none ∧ s.heap.objs.size ∉ σ.map Prod.fst := by
  constructor
  · cases h : B s.heap.objs.size with
    | none => rfl
    | some o => exact absurd (Heap.lt_size (S.keep _ _ h)) (Nat.lt_irrefl _)
  · intro hm
    obtain ⟨p, hp, e⟩ := List.mem_map.mp hm
    obtain ⟨_, o, ho, _⟩ := S.own p hp
    rw [e] at ho
    exact absurd (Heap.lt_size ho) (Nat.lt_irrefl _)
/-- a new object that is told of -/
theorem SS.push {g : Gh} {B : Base} {σ : AH} {s : Shared} (S : SS g B σ s) {o : Obj} {ao : AO} (h : ao.Is o) : SS g B ((s.heap.objs.size, ao) :: σ) { s with heap := s.heap.push o } := by
  obtain ⟨hB, hn⟩ := S.new
  refine ⟨S.ok, S.ge, fun a o' e => Heap.get?_push_of_some _ (S.keep a o' e), List.nodup_cons.mpr ⟨hn, S.nd⟩, fun p hp => ?_, S.os, S.gens, S.pos⟩
  rcases List.mem_cons.mp hp with rfl | hp
  · exact ⟨hB, o, Heap.get?_push_size _ h.live, h⟩
  · obtain ⟨a, o', b, c⟩ := S.own p hp
    exact ⟨a, o', Heap.get?_push_of_some _ b, c⟩
/-- a new object that is not told of -/
theorem SS.pushed {g : Gh} {B : Base} {σ : AH} {s : Shared} (S : SS g B σ s) (o : Obj) : SS g B σ { s with heap := s.heap.push o } :=
  ⟨S.ok, S.ge, fun a o' e => Heap.get?_push_of_some _ (S.keep a o' e), S.nd, fun p hp => let ⟨a, o', b, c⟩ := S.own p hp; ⟨a, o', Heap.get?_push_of_some _ b, c⟩, S.os, S.gens, S.pos⟩
/-- the heap goes on, and keeps all that it held but for an address that nothing speaks of -/
theorem SS.ext {g : Gh} {B : Base} {σ : AH} {s : Shared} (S : SS g B σ s) {h' : Heap} {a : Addr} (hs : Heap.ExtBut a s.heap h') (hB : B a = none) (ha : a ∉ σ.map Prod.fst) : SS g B σ { s with heap := h' } :=
  ⟨S.ok, S.ge, fun b o e => hs b o (by rintro rfl; rw [hB] at e; cases e) (S.keep b o e), S.nd,
    fun p hp => let ⟨x, o, y, z⟩ := S.own p hp; ⟨x, o, hs _ _ (by rintro rfl; exact ha (List.mem_map.mpr ⟨p, hp, rfl⟩)) y, z⟩, S.os, S.gens, S.pos⟩
theorem SS.more {g : Gh} {B : Base} {σ : AH} {s : Shared} (S : SS g B σ s) {h' : Heap} (hs : ∀ b o, s.heap.get? b = some o → h'.get? b = some o) : SS g B σ { s with heap := h' } :=
  ⟨S.ok, S.ge, fun b o e => hs b o (S.keep b o e), S.nd, fun p hp => let ⟨x, o, y, z⟩ := S.own p hp; ⟨x, o, hs _ _ y, z⟩, S.os, S.gens, S.pos⟩
theorem set_fst {σ : AH} {i : Nat} {a : Addr} {ao ao' : AO} (h : σ[i]? = some (a, ao)) : (σ.set i (a, ao')).map Prod.fst = σ.map Prod.fst := by
  rw [List.map_set]
  obtain ⟨hl, he⟩ := List.getElem?_eq_some_iff.mp h
  rw [show (a, ao').1 = (σ.map Prod.fst)[i]'(by simpa using hl) from by simp [he]]
  exact List.set_getElem_self (by simpa using hl)
/-- an object of our own changes -/
theorem SS.change {g : Gh} {B : Base} {σ : AH} {s : Shared} (S : SS g B σ s) {i : Nat} {a : Addr} {ao ao' : AO} (hi : σ[i]? = some (a, ao)) {h' : Heap} {o' : Obj} (ho : h'.get? a = some o') (hs : Heap.ExtBut a s.heap h') (h : ao'.Is o') :
    SS g B (σ.set i (a, ao')) { s with heap := h' } := by
  have hm := List.mem_of_getElem? hi
  have hB := (S.own _ hm).1
  refine ⟨S.ok, S.ge, fun b o e => hs b o (by rintro rfl; rw [hB] at e; cases e) (S.keep b o e), by rw [set_fst hi]; exact S.nd, fun p hp => ?_, S.os, S.gens, S.pos⟩
  obtain ⟨j, hj⟩ := List.getElem?_of_mem hp
  rw [List.getElem?_set] at hj
  split at hj
  · split at hj
    · cases hj; exact ⟨hB, o', ho, h⟩
    · cases hj
  · rename_i hij
    have hp' := List.mem_of_getElem? hj
    obtain ⟨x, o, y, z⟩ := S.own p hp'
    refine ⟨x, o, hs _ _ ?_ y, z⟩
    intro e
    have hnd := S.nd
    have h1 : (σ.map Prod.fst)[i]? = some a := by rw [List.getElem?_map, hi]; rfl
    have h2 : (σ.map Prod.fst)[j]? = some a := by rw [List.getElem?_map, hj]; simp [e]
    obtain ⟨l1, e1⟩ := List.getElem?_eq_some_iff.mp h1
    obtain ⟨l2, e2⟩ := List.getElem?_eq_some_iff.mp h2
    have hp := List.pairwise_iff_getElem.mp hnd
    rcases Nat.lt_or_ge i j with q | q
    · exact hp i j l1 l2 q (e1.trans e2.symm)
    · exact hp j i l2 l1 (Nat.lt_of_le_of_ne q (Ne.symm hij)) (e2.trans e1.symm)
theorem SS.update {g : Gh} {B : Base} {σ : AH} {s : Shared} (S : SS g B σ s) {i : Nat} {a : Addr} {ao ao' : AO} {o : Obj} (hi : σ[i]? = some (a, ao)) (ho : s.heap.get? a = some o) (f : Obj → Obj) (h : ao'.Is (f o)) :
    SS g B (σ.set i (a, ao')) { s with heap := s.heap.update a f } :=
  S.change hi (Heap.get?_update_self _ ho h.live) (Heap.SameBut.update ..).extBut h
/-- the call level: no frame in sight -/
noncomputable def C {α : Type} (g : Gh) (k : Nat) (t : Sem α) (Q : α → AH → Prop) (σ : AH) : Prop :=
  ∀ A B s, OkA k A → SS g B σ s → wpAny (model g.prog g.w) A t (fun a s' => ∃ σ', SS g B σ' s' ∧ Q a σ') (fun _ _ => False) s
section
variable {α β : Type} {g : Gh} {k : Nat} {σ : AH}
theorem C.pure {a : α} {Q : α → AH → Prop} (h : Q a σ) : C g k (Pure.pure a : Sem α) Q σ := fun _ _ _ _ S => wpAny_pure ⟨σ, S, h⟩
theorem C.mono {t : Sem α} {Q Q' : α → AH → Prop} (h : C g k t Q σ) (q : ∀ a σ', Q a σ' → Q' a σ') : C g k t Q' σ :=
  fun A B s ok S => wpAny_mono (h A B s ok S) (fun a _ ⟨σ', x, y⟩ => ⟨σ', x, q a σ' y⟩) fun _ _ e => e
theorem C.bind {t : Sem α} {f : α → Sem β} {Q : β → AH → Prop} (h : C g k t (fun a σ' => C g k (f a) Q σ') σ) : C g k (t >>= f) Q σ :=
  fun A B s ok S => wpAny_bind (wpAny_mono (h A B s ok S) (fun _ s' ⟨_, x, y⟩ => y A B s' ok x) fun _ _ e => e)
theorem C.sub {t : Sem α} {σ' : AH} {Q : α → AH → Prop} (h : C g k t Q σ') (hs : σ'.Sublist σ) : C g k t Q σ := fun A B s ok S => h A B s ok (S.sub hs)
theorem OkA.less {k k' : Nat} {A : Around} (h : OkA k A) (hk : k' ≤ k) : OkA k' A := ⟨h.handled, by have := h.depth; omega, by have := h.units; omega⟩
theorem C.more {k' : Nat} {t : Sem α} {Q : α → AH → Prop} (h : C g k t Q σ) (hk : k ≤ k') : C g k' t Q σ := fun A B s ok S => h A B s (ok.less hk) S
theorem OkA.room {k : Nat} {A : Around} (h : OkA k A) : A.depth < recursionLimit := by have := h.depth; show A.depth < 1000; omega
theorem OkA.line {k : Nat} {A : Around} (h : OkA k A) : A.units < cLine := by have := h.units; show A.units < 9900; omega
end
/-- a frame -/
structure FR (B : Base) (σ : AH) (env : Env) (wr : List Str) (m : FM) (h : Heap) : Prop where
  kind : env.scope.kind = .function
  glob : env.globals = mainGlobals
  blt : env.builtins = builtinsNs
  loc : ∃ ml, h.Ns env.locals ml ∧ ∀ x v, m.lookup x = some v → env.kindOf x = some .local → ∃ u, ml x = some u ∧ er u = v
  newL : B env.locals = none
  offL : env.locals ∉ σ.map Prod.fst
  cell : ∀ x v, m.lookup x = some v → env.kindOf x ≠ some .local → ∃ c u, env.cells.lookup x = some c ∧ h.IsCell c (some u) ∧ er u = v
  cells : ∀ x c, env.cells.lookup x = some c → c ≠ env.locals ∧ (∃ u, h.IsCell c u) ∧ if x ∈ wr then B c = none ∧ c ∉ σ.map Prod.fst else ∃ o, B c = some o
  inj : ∀ x y c, env.cells.lookup x = some c → env.cells.lookup y = some c → x = y
  cw : ∀ x ∈ wr, ∃ c, env.cells.lookup x = some c
noncomputable def W {α : Type} (g : Gh) (k : Nat) (env : Env) (wr : List Str) (t : Sem α) (Q : α → FM → AH → Prop) (m : FM) (σ : AH) : Prop :=
  ∀ A B s, OkA k A → SS g B σ s → FR B σ env wr m s.heap →
    wpAny (model g.prog g.w) A t (fun a s' => ∃ m' σ', SS g B σ' s' ∧ FR B σ' env wr m' s'.heap ∧ Q a m' σ') (fun _ _ => False) s
theorem FR.sub {B : Base} {σ σ' : AH} {env : Env} {wr : List Str} {m : FM} {h : Heap} (F : FR B σ env wr m h) (hs : σ'.Sublist σ) : FR B σ' env wr m h :=
  { F with offL := fun x => F.offL ((hs.map _).subset x),
           cells := fun x c e => by
             obtain ⟨a, b, d⟩ := F.cells x c e
             refine ⟨a, b, ?_⟩
             split at d
             · rename_i q; rw [if_pos q]; exact ⟨d.1, fun y => d.2 ((hs.map _).subset y)⟩
             · rename_i q; rw [if_neg q]; exact d }
theorem FR.less {B : Base} {σ : AH} {env : Env} {wr : List Str} {m m' : FM} {h : Heap} (F : FR B σ env wr m h) (hm : ∀ x v, m'.lookup x = some v → m.lookup x = some v) : FR B σ env wr m' h :=
  { F with loc := let ⟨ml, a, b⟩ := F.loc; ⟨ml, a, fun x v e => b x v (hm x v e)⟩
           cell := fun x v e => F.cell x v (hm x v e) }
section
variable {α β : Type} {g : Gh} {k : Nat} {env : Env} {wr : List Str} {m : FM} {σ : AH}
theorem W.pure {a : α} {Q : α → FM → AH → Prop} (h : Q a m σ) : W g k env wr (Pure.pure a : Sem α) Q m σ := fun _ _ _ _ S F => wpAny_pure ⟨m, σ, S, F, h⟩
theorem W.mono {t : Sem α} {Q Q' : α → FM → AH → Prop} (h : W g k env wr t Q m σ) (q : ∀ a m' σ', Q a m' σ' → Q' a m' σ') : W g k env wr t Q' m σ :=
  fun A B s ok S F => wpAny_mono (h A B s ok S F) (fun a _ ⟨m', σ', x, z, y⟩ => ⟨m', σ', x, z, q a m' σ' y⟩) fun _ _ e => e
theorem W.bind {t : Sem α} {f : α → Sem β} {Q : β → FM → AH → Prop} (h : W g k env wr t (fun a m' σ' => W g k env wr (f a) Q m' σ') m σ) : W g k env wr (t >>= f) Q m σ :=
  fun A B s ok S F => wpAny_bind (wpAny_mono (h A B s ok S F) (fun _ s' ⟨_, _, x, z, y⟩ => y A B s' ok x z) fun _ _ e => e)
theorem W.drop {t : Sem α} {σ' : AH} {Q : α → FM → AH → Prop} (h : W g k env wr t Q m σ') (hs : σ'.Sublist σ) : W g k env wr t Q m σ := fun A B s ok S F => h A B s ok (S.sub hs) (F.sub hs)
theorem W.less {t : Sem α} {m' : FM} {Q : α → FM → AH → Prop} (h : W g k env wr t Q m' σ) (hm : ∀ x v, m'.lookup x = some v → m.lookup x = some v) : W g k env wr t Q m σ := fun A B s ok S F => h A B s ok S (F.less hm)
open Classical in
noncomputable def Base.and (B : Base) (h : Heap) (P : Addr → Prop) : Base := fun a => match B a with
  | some o => some o
  | none => if P a then h.get? a else none
theorem Base.and_old {B : Base} {h : Heap} {P : Addr → Prop} {a : Addr} {o : Obj} (e : B a = some o) : B.and h P a = some o := by simp [Base.and, e]
theorem Base.and_none {B : Base} {h : Heap} {P : Addr → Prop} {a : Addr} (e : B a = none) (hp : ¬ P a) : B.and h P a = none := by simp [Base.and, e, hp]
theorem Base.and_new {B : Base} {h : Heap} {P : Addr → Prop} {a : Addr} (e : B a = none) (hp : P a) : B.and h P a = h.get? a := by simp [Base.and, e, hp]
theorem Base.none_of {B : Base} {h : Heap} {P : Addr → Prop} {a : Addr} (e : B.and h P a = none) : B a = none := by
  cases hb : B a with
  | none => rfl
  | some o => rw [Base.and_old hb] at e; cases e
theorem SS.and {B : Base} {s : Shared} (S : SS g B σ s) (P : Addr → Prop) (hP : ∀ a ∈ σ.map Prod.fst, ¬ P a) : SS g (B.and s.heap P) σ s :=
  ⟨S.ok, fun a o e => Base.and_old (S.ge a o e), fun a o e => by
    cases hb : B a with
    | some o' => rw [Base.and_old hb] at e; cases e; exact S.keep _ _ hb
    | none =>
      by_cases hp : P a
      · rw [Base.and_new hb hp] at e; exact e
      · rw [Base.and_none hb hp] at e; exact absurd e (by simp), S.nd, fun p hp => by
    obtain ⟨a, b⟩ := S.own p hp
    exact ⟨Base.and_none a (hP _ (List.mem_map.mpr ⟨p, hp, rfl⟩)), b⟩, S.os, S.gens, S.pos⟩
theorem SS.back {B : Base} {h : Heap} {P : Addr → Prop} {s : Shared} (S : SS g (B.and h P) σ s) (ge : ∀ a o, g.h0.get? a = some o → B a = some o) : SS g B σ s :=
  ⟨S.ok, ge, fun a o e => S.keep a o (Base.and_old e), S.nd, fun p hp => let ⟨a, b⟩ := S.own p hp; ⟨Base.none_of a, b⟩, S.os, S.gens, S.pos⟩
/-- the frame's own addresses -/
noncomputable def FrA (env : Env) (a : Addr) : Prop := a = env.locals ∨ ∃ x, env.cells.lookup x = some a
theorem FR.offA {B : Base} {s : Shared} (S : SS g B σ s) (F : FR B σ env wr m s.heap) : ∀ a ∈ σ.map Prod.fst, ¬ FrA env a := by
  rintro a ha (rfl | ⟨x, e⟩)
  · exact F.offL ha
  · obtain ⟨_, _, d⟩ := F.cells x a e
    split at d
    · exact d.2 ha
    · obtain ⟨o, ho⟩ := d
      obtain ⟨p, hp, rfl⟩ := List.mem_map.mp ha
      rw [(S.own p hp).1] at ho; cases ho
theorem FR.keeps {B B' : Base} {σ' : AH} {h h' : Heap} (F : FR B σ env wr m h) (hk : ∀ a, FrA env a → ∀ o, h.get? a = some o → h'.get? a = some o) (hB : ∀ a, FrA env a → B' a = B a) (hσ : ∀ a, FrA env a → B a = none → a ∉ σ'.map Prod.fst) : FR B' σ' env wr m h' where
  kind := F.kind
  glob := F.glob
  blt := F.blt
  loc := by
    obtain ⟨ml, ⟨o, es, ep, ho, r⟩, b⟩ := F.loc
    exact ⟨ml, ⟨o, es, ep, hk _ (.inl rfl) _ ho, r⟩, b⟩
  newL := (hB _ (.inl rfl)).trans F.newL
  offL := hσ _ (.inl rfl) F.newL
  cell := fun x v e ne => by
    obtain ⟨c, u, hc, ⟨o, ho, hd⟩, hu⟩ := F.cell x v e ne
    exact ⟨c, u, hc, ⟨o, hk _ (.inr ⟨x, hc⟩) _ ho, hd⟩, hu⟩
  cells := fun x c e => by
    obtain ⟨a, ⟨u, o, ho, hd⟩, d⟩ := F.cells x c e
    refine ⟨a, ⟨u, o, hk _ (.inr ⟨x, e⟩) _ ho, hd⟩, ?_⟩
    rw [hB _ (.inr ⟨x, e⟩)]
    split at d
    · rename_i q; rw [if_pos q]; exact ⟨d.1, hσ _ (.inr ⟨x, e⟩) d.1⟩
    · rename_i q; rw [if_neg q]; exact d
  inj := F.inj
  cw := F.cw
/-- what needs no frame, within a frame -/
theorem W.of_C {t : Sem α} {Q : α → FM → AH → Prop} (h : C g k t (fun a σ' => Q a m σ') σ) : W g k env wr t Q m σ := by
  intro A B s ok S F
  refine wpAny_mono (h A (B.and s.heap (FrA env)) s ok (S.and _ (FR.offA S F))) ?_ fun _ _ e => e
  rintro a s' ⟨σ', S', q⟩
  refine ⟨m, σ', S'.back S.ge, F.keeps (fun a ha o ho => ?_) (fun _ _ => rfl) (fun a ha hb hm => ?_), q⟩
  · cases hb : B a with
    | none => exact S'.keep a o (by rw [Base.and_new hb ha]; exact ho)
    | some o' =>
      have := S.keep a o' hb
      rw [ho] at this; cases this
      exact S'.keep a o (Base.and_old hb)
  · obtain ⟨p, hp, rfl⟩ := List.mem_map.mp hm
    have e := (S'.own p hp).1
    have hex : ∃ o, s.heap.get? p.1 = some o := by
      rcases ha with e' | ⟨x, e'⟩
      · obtain ⟨ml, ⟨o, _, _, ho, _⟩, _⟩ := F.loc
        exact ⟨o, e' ▸ ho⟩
      · obtain ⟨_, ⟨u, o, ho, _⟩, _⟩ := F.cells x _ e'
        exact ⟨o, ho⟩
    obtain ⟨o, ho⟩ := hex
    rw [Base.and_new hb ha, ho] at e; cases e
end
end Mine
/- R1 -/
namespace Mine
open PySem PySem.W PySem.Calls PyProof.Rows
noncomputable def WV (g : Gh) (k : Nat) (env : Env) (wr : List Str) (t : Sem Value) (Q : Value → FM → AH → Prop) (m : FM) (σ : AH) : Prop := W g k env wr t (fun v m σ => Q (er v) m σ) m σ
noncomputable def CV (g : Gh) (k : Nat) (t : Sem Value) (Q : Value → AH → Prop) (σ : AH) : Prop := C g k t (fun v σ => Q (er v) σ) σ
theorem er_int {v : Value} {i : Int} (h : er v = .int i 0) : ∃ t, v = .int i t := by
  cases v <;> simp only [er, Value.int.injEq] at h <;> first | exact ⟨_, by rw [h.1]⟩ | cases h
theorem er_str {v : Value} {x : Str} (h : er v = .str x 0) : ∃ t, v = .str x t := by
  cases v <;> simp only [er, Value.str.injEq] at h <;> first | exact ⟨_, by rw [h.1]⟩ | cases h
theorem er_ref {v : Value} {a : Addr} (h : er v = .ref a) : v = .ref a := by
  cases v <;> simp only [er] at h <;> first | exact h | cases h
theorem er_none {v : Value} (h : er v = .none) : v = .none := by
  cases v <;> simp only [er] at h <;> first | rfl | cases h
theorem er_bool {v : Value} {b : Bool} (h : er v = .bool b) : v = .bool b := by
  cases v <;> simp only [er] at h <;> first | exact h | cases h
theorem er_builtin {v : Value} {b : String} (h : er v = .builtin b) : v = .builtin b := by
  cases v <;> simp only [er] at h <;> first | exact h | cases h
theorem er_type {v : Value} {b : String} (h : er v = .type b) : v = .type b := by
  cases v <;> simp only [er] at h <;> first | exact h | cases h
theorem er_er (v : Value) : er (er v) = er v := by cases v <;> rfl
section
variable {α β : Type} {g : Gh} {k : Nat} {env : Env} {wr : List Str} {m : FM} {σ : AH}
/- names -/
theorem W.loadLocal {x : Str} {v : Value} {Q : Value → FM → AH → Prop} (hl : env.kindOf x = some .local) (hv : m.lookup x = some v) (h : Q v m σ) : WV g k env wr (loadName env x) Q m σ := by
  intro A B s ok S F
  obtain ⟨ml, hn, hm⟩ := F.loc
  obtain ⟨u, hu, rfl⟩ := hm x v hv hl
  exact wpAny_loadName_local F.kind hl hn hu ⟨m, σ, S, F, h⟩
theorem W.loadCell {x : Str} {v : Value} {Q : Value → FM → AH → Prop} (hl : env.kindOf x = some .cell) (hv : m.lookup x = some v) (h : Q v m σ) : WV g k env wr (loadName env x) Q m σ := by
  intro A B s ok S F
  obtain ⟨c, u, hc, hi, rfl⟩ := F.cell x v hv (by rw [hl]; decide)
  exact wpAny_loadName_cell F.kind hl hc hi ⟨m, σ, S, F, h⟩
theorem W.loadFree {x : Str} {v : Value} {Q : Value → FM → AH → Prop} (hl : env.kindOf x = some .free) (hv : m.lookup x = some v) (h : Q v m σ) (hn : (x == ("__classdict__" : Str)) = false := by decide) : WV g k env wr (loadName env x) Q m σ := by
  intro A B s ok S F
  obtain ⟨c, u, hc, hi, rfl⟩ := F.cell x v hv (by rw [hl]; decide)
  exact wpAny_loadName_free F.kind hl hc hi ⟨m, σ, S, F, h⟩ hn
theorem W.name {x : Str} {pos : Pos} {Q : Value → FM → AH → Prop} (h : WV g k env wr (loadName env x) Q m σ) (hd : (x == ("__debug__" : Str)) = false := by decide) : WV g k env wr (eval (.Name x pos) env) Q m σ :=
  fun A B s ok S F => wpAny_Name (h A B s ok S F) hd
theorem W.global {x : Str} {pos : Pos} {v : Value} {Q : Value → FM → AH → Prop} (hl : env.kindOf x = some .globalImplicit) (hv : nsIn g.K mainGlobals x = some (some v)) (h : Q (er v) m σ) (hd : (x == ("__debug__" : Str)) = false := by decide) :
    WV g k env wr (eval (.Name x pos) env) Q m σ := fun A B s ok S F =>
  Calls.Name_function_global F.kind hl (Calls.loadGlobal_global (mg := g.mg) (by rw [F.glob]; exact S.ok.hg.keeps S.h0) (mg_of S.ok.hK S.ok.hg hv) ⟨m, σ, S, F, h⟩) hd
theorem mg_none {K : Frag} {h : Heap} {mg : Str → Option Value} {n : Str} (X : K.In h) (G : h.Ns mainGlobals mg) (e : nsIn K mainGlobals n = some none) : mg n = none := ns_none_of X G e
theorem W.builtin {x : Str} {pos : Pos} {v : Value} {Q : Value → FM → AH → Prop} (hl : env.kindOf x = some .globalImplicit) (hm : nsIn g.K mainGlobals x = some none) (hv : bootBuiltins x = some v) (h : Q (er v) m σ)
    (hn : x ≠ "__name__" := by decide) (hd : (x == ("__debug__" : Str)) = false := by decide) :
    WV g k env wr (eval (.Name x pos) env) Q m σ := fun A B s ok S F =>
  Calls.Name_function_global F.kind hl (Calls.loadGlobal_builtin (mg := g.mg) (mb := g.mb) (by rw [F.glob]; exact S.ok.hg.keeps S.h0) (mg_none S.ok.hK S.ok.hg hm) (by rw [F.blt]; exact S.ok.hb.keeps S.h0)
    ((S.ok.builtins x hn).trans hv) ⟨m, σ, S, F, h⟩) hd
theorem lookup_cons_self {x : Str} {v : Value} : List.lookup x ((x, v) :: m) = some v := by rw [List.lookup_cons]; simp
theorem lookup_cons_ne {x y : Str} {v : Value} (h : y ≠ x) : List.lookup y ((x, v) :: m) = m.lookup y := by
  rw [List.lookup_cons]
  have : (y == x) = false := by simpa using h
  rw [this]
theorem W.storeLocal {x : Str} {v : Value} {Q : Unit → FM → AH → Prop} (hl : env.kindOf x = some .local) (h : Q () ((x, er v) :: m) σ) : W g k env wr (storeName env x v) Q m σ := by
  intro A B s ok S F
  obtain ⟨ml, hn, hm⟩ := F.loc
  refine wpAny_storeName_local hl hn (fun h' hn' hs => ⟨(x, er v) :: m, σ, ?_, ?_, h⟩) (by rw [F.kind]; rfl)
  · exact (S.ext hs.extBut F.newL F.offL).tok _
  · refine { F with loc := ⟨_, hn', fun y u e hy => ?_⟩, cell := fun y u e hy => ?_, cells := fun y c e => ?_ }
    · by_cases q : y = x
      · subst q
        rw [lookup_cons_self] at e; cases e
        exact ⟨v, if_pos rfl, rfl⟩
      · rw [lookup_cons_ne q] at e
        rw [if_neg q]; exact hm y u e hy
    · have q : y ≠ x := by rintro rfl; exact hy hl
      rw [lookup_cons_ne q] at e
      obtain ⟨c, w, a, ⟨o, b, b'⟩, d⟩ := F.cell y u e hy
      exact ⟨c, w, a, ⟨o, (hs.2 c (F.cells y c a).1).trans b, b'⟩, d⟩
    · obtain ⟨a, ⟨u, o, b, b'⟩, d⟩ := F.cells y c e
      exact ⟨a, ⟨u, o, (hs.2 c a).trans b, b'⟩, d⟩
theorem W.storeCell {x : Str} {v : Value} {Q : Unit → FM → AH → Prop} (hl : env.kindOf x = some .cell) (hw : x ∈ wr) (h : Q () ((x, er v) :: m) σ) : W g k env wr (storeName env x v) Q m σ := by
  intro A B s ok S F
  obtain ⟨c, hc⟩ := F.cw x hw
  obtain ⟨cL, ⟨u₀, hi⟩, d⟩ := F.cells x c hc
  rw [if_pos hw] at d
  refine wpAny_storeName_cell F.kind hl hc hi (fun h' hn' hs => ⟨(x, er v) :: m, σ, ?_, ?_, h⟩)
  · exact S.ext hs.extBut d.1 d.2
  · refine { F with loc := ?_, cell := fun y u e hy => ?_, cells := fun y c' e => ?_ }
    · obtain ⟨ml, hn, hm⟩ := F.loc
      refine ⟨ml, hn.sameBut hs (Ne.symm cL), fun y u e hy => ?_⟩
      have q : y ≠ x := by rintro rfl; rw [hl] at hy; cases hy
      rw [lookup_cons_ne q] at e
      exact hm y u e hy
    · by_cases q : y = x
      · subst q
        rw [lookup_cons_self] at e; cases e
        exact ⟨c, v, hc, hn', rfl⟩
      · rw [lookup_cons_ne q] at e
        obtain ⟨c', w, a, ⟨o, b, b'⟩, d'⟩ := F.cell y u e hy
        exact ⟨c', w, a, ⟨o, (hs.2 c' (by rintro rfl; exact q (F.inj _ _ _ a hc))).trans b, b'⟩, d'⟩
    · obtain ⟨a, ⟨u, o, b, b'⟩, d'⟩ := F.cells y c' e
      refine ⟨a, ?_, d'⟩
      by_cases q : c' = c
      · subst q; exact ⟨_, hn'⟩
      · exact ⟨u, o, (hs.2 c' q).trans b, b'⟩
/- constants -/
theorem W.cInt {i : Int} {j : Nat} {pos : Pos} {Q : Value → FM → AH → Prop} (h : Q (.int i 0) m σ) : WV g k env wr (eval (.Constant (.int i) j pos) env) Q m σ :=
  fun A B s ok S F => wpAny_Constant_int ⟨m, σ, S.tok _, F, h⟩
theorem W.cStr {x : Str} {j : Nat} {pos : Pos} {Q : Value → FM → AH → Prop} (h : Q (.str x 0) m σ) : WV g k env wr (eval (.Constant (.str x) j pos) env) Q m σ :=
  fun A B s ok S F => Calls.Constant_str ⟨m, σ, S.tok _, F, h⟩
theorem W.cNone {j : Nat} {pos : Pos} {Q : Value → FM → AH → Prop} (h : Q .none m σ) : WV g k env wr (eval (.Constant .none j pos) env) Q m σ :=
  fun A B s ok S F => wpAny_Constant_none ⟨m, σ, S, F, h⟩
theorem W.cBool {b : Bool} {j : Nat} {pos : Pos} {Q : Value → FM → AH → Prop} (h : Q (.bool b) m σ) : WV g k env wr (eval (.Constant (.bool b) j pos) env) Q m σ :=
  fun A B s ok S F => wpAny_Constant_bool ⟨m, σ, S, F, h⟩
/- operators -/
noncomputable def BO (g : Gh) (k : Nat) (op : Operator) (x y : Value) (Q : Value → AH → Prop) (σ : AH) : Prop := ∀ a b, er a = x → er b = y → CV g k (binaryOp op a b) Q σ
noncomputable def CO (g : Gh) (k : Nat) (op : CmpOp) (x y : Value) (Q : Value → AH → Prop) (σ : AH) : Prop := ∀ a b, er a = x → er b = y → CV g k (compareOp op a b) Q σ
noncomputable def TR (g : Gh) (k : Nat) (x : Value) (Q : Bool → AH → Prop) (σ : AH) : Prop := ∀ a, er a = x → C g k (truthy a) Q σ
theorem W.binOp {l r : Expr} {op : Operator} {pos : Pos} {Q : Value → FM → AH → Prop}
    (h : WV g k env wr (eval l env) (fun x m σ => WV g k env wr (eval r env) (fun y m σ => BO g k op x y (fun z σ => Q z m σ) σ) m σ) m σ) : WV g k env wr (eval (.BinOp l op r pos) env) Q m σ := by
  intro A B s ok S F
  refine wpAny_BinOp (wpAny_mono (h A B s ok S F) ?_ fun _ _ e => e)
  rintro a s1 ⟨m1, σ1, S1, F1, h1⟩
  refine wpAny_mono (h1 A B s1 ok S1 F1) ?_ fun _ _ e => e
  rintro b s2 ⟨m2, σ2, S2, F2, h2⟩
  exact W.of_C (h2 a b rfl rfl) A B s2 ok S2 F2
theorem W.compare {l r : Expr} {op : CmpOp} {pos : Pos} {Q : Value → FM → AH → Prop}
    (h : WV g k env wr (eval l env) (fun x m σ => WV g k env wr (eval r env) (fun y m σ => CO g k op x y (fun z σ => Q z m σ) σ) m σ) m σ)
    (hm : behindInMarks op r = false := by with_unfolding_all rfl) : WV g k env wr (eval (.Compare l [op] [r] pos) env) Q m σ := by
  intro A B s ok S F
  refine wpAny_Compare1 (wpAny_mono (h A B s ok S F) ?_ fun _ _ e => e) hm
  rintro a s1 ⟨m1, σ1, S1, F1, h1⟩
  refine wpAny_mono (h1 A B s1 ok S1 F1) ?_ fun _ _ e => e
  rintro b s2 ⟨m2, σ2, S2, F2, h2⟩
  exact W.of_C (h2 a b rfl rfl) A B s2 ok S2 F2
/-- a test -/
noncomputable def WT (g : Gh) (k : Nat) (env : Env) (wr : List Str) (e : Expr) (Q : Bool → FM → AH → Prop) (m : FM) (σ : AH) : Prop := W g k env wr (isTrue e env (eval e env)) Q m σ
theorem WT.compare {l r : Expr} {op : CmpOp} {pos : Pos} {Q : Bool → FM → AH → Prop}
    (h : WV g k env wr (eval l env) (fun x m σ => WV g k env wr (eval r env) (fun y m σ => CO g k op x y (fun z σ => TR g k z (fun b σ => Q b m σ) σ) σ) m σ) m σ)
    (hm : behindInMarks op r = false := by with_unfolding_all rfl) : WT g k env wr (.Compare l [op] [r] pos) Q m σ := by
  intro A B s ok S F
  refine wpAny_isTrue_Compare1 (wpAny_mono (h A B s ok S F) ?_ fun _ _ e => e) hm
  rintro a s1 ⟨m1, σ1, S1, F1, h1⟩
  refine wpAny_mono (h1 A B s1 ok S1 F1) ?_ fun _ _ e => e
  rintro b s2 ⟨m2, σ2, S2, F2, h2⟩
  refine wpAny_mono (W.of_C (env := env) (wr := wr) (m := m2) (Q := fun v m σ => m = m2 ∧ TR g k (er v) (fun b σ => Q b m2 σ) σ) ((h2 a b rfl rfl).mono fun _ _ h => ⟨rfl, h⟩) A B s2 ok S2 F2) ?_ fun _ _ e => e
  rintro c s3 ⟨m3, σ3, S3, F3, rfl, h3⟩
  exact W.of_C (h3 c rfl) A B s3 ok S3 F3
theorem WT.value {e : Expr} {Q : Bool → FM → AH → Prop} (h : WV g k env wr (eval e env) (fun x m σ => TR g k x (fun b σ => Q b m σ) σ) m σ)
    (he : ∀ whole, isTrue e env whole = (do let v ← whole; standAt e.pos; holding [v] (truthy v)) := by intro _; rfl) : WT g k env wr e Q m σ := by
  intro A B s ok S F
  refine wpAny_isTrue_value (wpAny_mono (h A B s ok S F) ?_ fun _ _ e => e) (he _)
  rintro a s1 ⟨m1, σ1, S1, F1, h1⟩
  exact W.of_C (h1 a rfl) A B s1 ok S1 F1
theorem TR.bool {b : Bool} {Q : Bool → AH → Prop} (h : Q b σ) : TR g k (.bool b) Q σ := by
  intro a ha A B s ok S
  rw [er_bool ha]; exact wpAny_truthy_bool ⟨σ, S, h⟩
theorem BO.addInt {x y : Int} {Q : Value → AH → Prop} (h : Q (.int (x + y) 0) σ) : BO g k .Add (.int x 0) (.int y 0) Q σ := by
  intro a b ha hb A B s ok S
  obtain ⟨t, rfl⟩ := er_int ha; obtain ⟨u, rfl⟩ := er_int hb
  exact P.add_int ⟨σ, S.tok _, h⟩
theorem BO.subInt {x y : Int} {Q : Value → AH → Prop} (h : Q (.int (x - y) 0) σ) : BO g k .Sub (.int x 0) (.int y 0) Q σ := by
  intro a b ha hb A B s ok S
  obtain ⟨t, rfl⟩ := er_int ha; obtain ⟨u, rfl⟩ := er_int hb
  exact P.sub_int ⟨σ, S.tok _, h⟩
end
end Mine
/- R2 -/
namespace Mine
open PySem PySem.W PySem.Calls PyProof.Rows
noncomputable def erF : Flow → Flow
  | .ret v => .ret (er v)
  | f => f
/-- statements -/
noncomputable def WX (g : Gh) (k : Nat) (env : Env) (wr : List Str) (ss : List Stmt) (Q : Flow → FM → AH → Prop) (m : FM) (σ : AH) : Prop := W g k env wr (execs ss env) (fun f m σ => Q (erF f) m σ) m σ
noncomputable def thenX (g : Gh) (k : Nat) (env : Env) (wr : List Str) (rest : List Stmt) (Q : Flow → FM → AH → Prop) : Flow → FM → AH → Prop := fun f m σ => match f with
  | .next => WX g k env wr rest Q m σ
  | f => Q f m σ
noncomputable def Le (M m : FM) : Prop := ∀ p ∈ M, m.lookup p.1 = some p.2
section
variable {α β : Type} {g : Gh} {k : Nat} {env : Env} {wr : List Str} {m : FM} {σ : AH}
theorem Le.look {M : FM} (h : Le M m) {x : Str} {v : Value} (e : M.lookup x = some v) : m.lookup x = some v := h _ (mem_of_lookup e)
theorem W.le {t : Sem α} {M : FM} {Q : α → FM → AH → Prop} (h : W g k env wr t Q M σ) (hm : Le M m) : W g k env wr t Q m σ := h.less fun x v e => hm.look e
theorem WX.le {ss : List Stmt} {M : FM} {Q : Flow → FM → AH → Prop} (hm : Le M m) (h : WX g k env wr ss Q M σ) : WX g k env wr ss Q m σ := W.le h hm
theorem WT.le {e : Expr} {M : FM} {Q : Bool → FM → AH → Prop} (hm : Le M m) (h : WT g k env wr e Q M σ) : WT g k env wr e Q m σ := W.le h hm
theorem WV.le {t : Sem Value} {M : FM} {Q : Value → FM → AH → Prop} (hm : Le M m) (h : WV g k env wr t Q M σ) : WV g k env wr t Q m σ := W.le h hm
theorem WX.drop {ss : List Stmt} {σ' : AH} {Q : Flow → FM → AH → Prop} (hs : σ'.Sublist σ) (h : WX g k env wr ss Q m σ') : WX g k env wr ss Q m σ := W.drop h hs
theorem Le.nil : Le [] m := fun _ h => nomatch h
theorem Le.cons {M : FM} {x : Str} {v : Value} (h : m.lookup x = some v) (hM : Le M m) : Le ((x, v) :: M) m := by
  intro p hp
  rcases List.mem_cons.mp hp with rfl | hp
  · exact h
  · exact hM p hp
theorem WX.nil {Q : Flow → FM → AH → Prop} (h : Q .next m σ) : WX g k env wr [] Q m σ := fun A B s ok S F => wpAny_execs_nil ⟨m, σ, S, F, h⟩
theorem WX.cons {st : Stmt} {rest : List Stmt} {Q : Flow → FM → AH → Prop} (h : W g k env wr (exec st env) (fun f m σ => thenX g k env wr rest Q (erF f) m σ) m σ) : WX g k env wr (st :: rest) Q m σ := by
  intro A B s ok S F
  refine wpAny_execs_cons (wpAny_mono (h A B s ok S F) ?_ fun _ _ e => e)
  rintro f s1 ⟨m1, σ1, S1, F1, h1⟩
  cases f with
  | next => exact h1 A B s1 ok S1 F1
  | brk => exact ⟨m1, σ1, S1, F1, h1⟩
  | cont => exact ⟨m1, σ1, S1, F1, h1⟩
  | ret v => exact ⟨m1, σ1, S1, F1, h1⟩
theorem WX.assign {x : Str} {pos' pos : Pos} {value : Expr} {rest : List Stmt} {Q : Flow → FM → AH → Prop} (hl : env.kindOf x = some .local)
    (h : WV g k env wr (eval value env) (fun v m σ => WX g k env wr rest Q ((x, v) :: m) σ) m σ) (hs : swapsWith value (some (.Name x pos')) pos.line env = pure false := by rfl) :
    WX g k env wr (.Assign [.Name x pos'] value pos :: rest) Q m σ := by
  refine WX.cons fun A B s ok S F => wpAny_Assign_Name (wpAny_mono (h A B s ok S F) ?_ fun _ _ e => e) hs
  rintro v s1 ⟨m1, σ1, S1, F1, h1⟩
  exact wpAny_mono (W.storeLocal (Q := fun _ m σ => WX g k env wr rest Q m σ) hl h1 A B s1 ok S1 F1) (fun _ _ h => h) fun _ _ e => e
theorem WX.assignC {x : Str} {pos' pos : Pos} {value : Expr} {rest : List Stmt} {Q : Flow → FM → AH → Prop} (hl : env.kindOf x = some .cell) (hw : x ∈ wr)
    (h : WV g k env wr (eval value env) (fun v m σ => WX g k env wr rest Q ((x, v) :: m) σ) m σ) (hs : swapsWith value (some (.Name x pos')) pos.line env = pure false := by rfl) :
    WX g k env wr (.Assign [.Name x pos'] value pos :: rest) Q m σ := by
  refine WX.cons fun A B s ok S F => wpAny_Assign_Name (wpAny_mono (h A B s ok S F) ?_ fun _ _ e => e) hs
  rintro v s1 ⟨m1, σ1, S1, F1, h1⟩
  exact wpAny_mono (W.storeCell (Q := fun _ m σ => WX g k env wr rest Q m σ) hl hw h1 A B s1 ok S1 F1) (fun _ _ h => h) fun _ _ e => e
theorem WX.expr {e : Expr} {pos : Pos} {rest : List Stmt} {Q : Flow → FM → AH → Prop} (h : WV g k env wr (eval e env) (fun _ m σ => WX g k env wr rest Q m σ) m σ)
    (hs : swapsWith e none pos.line env = pure false := by rfl) : WX g k env wr (.Expr e pos :: rest) Q m σ :=
  WX.cons fun A B s ok S F => wpAny_Expr_any (h A B s ok S F) (by unfold interactive; rw [F.kind]; rfl) hs
theorem WX.ret {e : Expr} {pos : Pos} {rest : List Stmt} {Q : Flow → FM → AH → Prop} (h : WV g k env wr (eval e env) (fun v m σ => Q (.ret v) m σ) m σ) : WX g k env wr (.Return (some e) pos :: rest) Q m σ :=
  WX.cons fun A B s ok S F => wpAny_Return_some (h A B s ok S F)
theorem WX.ite {t : Expr} {b o : List Stmt} {pos : Pos} {rest : List Stmt} {Q : Flow → FM → AH → Prop}
    (h : WT g k env wr t (fun c m σ => if c then WX g k env wr b (thenX g k env wr rest Q) m σ else WX g k env wr o (thenX g k env wr rest Q) m σ) m σ) : WX g k env wr (.If t b o pos :: rest) Q m σ := by
  refine WX.cons fun A B s ok S F => wpAny_If (wpAny_mono (h A B s ok S F) ?_ fun _ _ e => e)
  rintro c s1 ⟨m1, σ1, S1, F1, h1⟩
  cases c <;> exact h1 A B s1 ok S1 F1
theorem WX.mono {ss : List Stmt} {Q Q' : Flow → FM → AH → Prop} (h : WX g k env wr ss Q m σ) (q : ∀ f m σ, Q f m σ → Q' f m σ) : WX g k env wr ss Q' m σ := W.mono h fun f m σ => q (erF f) m σ
/-- a while: what holds between its turns, by a measure -/
theorem WX.while {t : Expr} {b o : List Stmt} {pos : Pos} {rest : List Stmt} {Q : Flow → FM → AH → Prop} (I : Nat → FM → AH → Prop) (n : Nat) (h0 : I n m σ)
    (h : ∀ n m σ, I n m σ → WT g k env wr t (fun c m σ => if c then WX g k env wr b (fun f m σ => match f with
        | .next | .cont => ∃ n', n' < n ∧ I n' m σ
        | .brk => WX g k env wr rest Q m σ
        | .ret v => Q (.ret v) m σ) m σ
      else WX g k env wr o (thenX g k env wr rest Q) m σ) m σ) : WX g k env wr (.While t b o pos :: rest) Q m σ := by
  refine WX.cons fun A B s ok S F => ?_
  refine wpAny_While (codeAny_mono (R := fun r s' => match r with | .ok f => (∃ m' σ', SS g B σ' s' ∧ FR B σ' env wr m' s'.heap ∧ thenX g k env wr rest Q (erF f) m' σ') | .error _ => False) ?_ ?_)
  · refine codeAny_whileLoop (fun n s => ∃ m σ, SS g B σ s ∧ FR B σ env wr m s.heap ∧ I n m σ) ?_ n ⟨m, σ, S, F, h0⟩
    rintro n s ⟨m, σ, S, F, hI⟩
    refine wpAny_mono (h n m σ hI A B s ok S F) ?_ fun _ _ e => e.elim
    rintro c s1 ⟨m1, σ1, S1, F1, h1⟩
    cases c with
    | true =>
      refine wpAny_mono (h1 A B s1 ok S1 F1) ?_ fun _ _ e => e.elim
      rintro f s2 ⟨m2, σ2, S2, F2, h2⟩
      cases f with
      | next => obtain ⟨n', hn, hi⟩ := h2; exact ⟨n', hn, m2, σ2, S2, F2, hi⟩
      | cont => obtain ⟨n', hn, hi⟩ := h2; exact ⟨n', hn, m2, σ2, S2, F2, hi⟩
      | brk => exact ⟨m2, σ2, S2, F2, h2⟩
      | ret v => exact ⟨m2, σ2, S2, F2, h2⟩
    | false =>
      exact wpAny_mono (h1 A B s1 ok S1 F1) (fun f s2 h2 => h2) fun _ _ e => e.elim
  · rintro r s' h'
    cases r with
    | ok f => exact h'
    | error e => exact h'.elim
/- what is walked over -/
structure Nexts (g : Gh) (it : Addr) (vs : List Value) (dep : AH → Prop) (J : Nat → Obj → Prop) : Prop where
  item : ∀ {A : Around} {B : Base} {σ : AH} {s : Shared} {i : Nat} {o : Obj} {v : Value} {Q : Option Value → Shared → Prop} {E : Value → Shared → Prop}, A.handled = none → SS g B σ s → dep σ → s.heap.get? it = some o → J i o → vs[i]? = some v →
    (∀ u h' tk o', er u = v → h'.get? it = some o' → J (i + 1) o' → Heap.ExtBut it s.heap h' → Q (some u) { s with heap := h', toks := tk }) → wpAny (model g.prog g.w) A (pyNext (.ref it)) Q E s
  done : ∀ {A : Around} {B : Base} {σ : AH} {s : Shared} {i : Nat} {o : Obj} {Q : Option Value → Shared → Prop} {E : Value → Shared → Prop}, A.handled = none → SS g B σ s → dep σ → s.heap.get? it = some o → J i o → vs[i]? = none →
    (∀ h' tk, Heap.ExtBut it s.heap h' → Q none { s with heap := h', toks := tk }) → wpAny (model g.prog g.w) A (pyNext (.ref it)) Q E s
  live : ∀ i o, J i o → o.isFreed = false
  self : ∀ {A : Around} {s : Shared} {i : Nat} {o : Obj} {Q : Value → Shared → Prop} {E : Value → Shared → Prop}, s.heap.get? it = some o → J i o → Q (.ref it) s → wpAny (model g.prog g.w) A (pyIter (.ref it)) Q E s
  plain : ∀ i o, J i o → ∃ n fs, o.cls = .type n ∧ o.data = .fields fs ∧ ["enumerate", "zip", "dict_itemiterator", "dict_reverseitemiterator", "odict_iterator", "itertools.zip_longest", "itertools.pairwise"].contains n = false
noncomputable def Iterable (g : Gh) (x : Value) (vs : List Value) (dep : AH → Prop) (σ : AH) : Prop :=
  ∀ (A : Around) (B : Base) (s : Shared) (u : Value) (Q : Value → Shared → Prop) (E : Value → Shared → Prop), A.handled = none → SS g B σ s → er u = x →
    (∀ it o J, Nexts g it vs dep J → J 0 o → it = s.heap.objs.size → Q (.ref it) { s with heap := s.heap.push o }) → wpAny (model g.prog g.w) A (pyIter u) Q E s
/-- an address that is hidden from what runs within -/
structure Hid (B : Base) (σ : AH) (env : Env) (it : Addr) : Prop where
  base : B it = none
  off : it ∉ σ.map Prod.fst
  fr : ¬ FrA env it
theorem FR.live {B : Base} {h : Heap} (F : FR B σ env wr m h) {a : Addr} (ha : FrA env a) : ∃ o, h.get? a = some o := by
  rcases ha with rfl | ⟨x, e⟩
  · obtain ⟨ml, ⟨o, _, _, ho, _⟩, _⟩ := F.loc; exact ⟨o, ho⟩
  · obtain ⟨_, ⟨u, o, ho, _⟩, _⟩ := F.cells x _ e; exact ⟨o, ho⟩
theorem Hid.new {B : Base} {s : Shared} (S : SS g B σ s) (F : FR B σ env wr m s.heap) : Hid B σ env s.heap.objs.size :=
  ⟨S.new.1, S.new.2, fun ha => let ⟨_, ho⟩ := F.live ha; absurd (Heap.lt_size ho) (Nat.lt_irrefl _)⟩
theorem FR.more {B : Base} {h h' : Heap} (F : FR B σ env wr m h) (hs : ∀ b o, h.get? b = some o → h'.get? b = some o) : FR B σ env wr m h' :=
  F.keeps (fun a _ o e => hs a o e) (fun _ _ => rfl) fun a ha hb => by
    rcases ha with rfl | ⟨x, e⟩
    · exact F.offL
    · obtain ⟨_, _, d⟩ := F.cells x a e
      split at d
      · exact d.2
      · obtain ⟨o, ho⟩ := d; rw [hb] at ho; cases ho
theorem FR.off {B : Base} {h : Heap} (F : FR B σ env wr m h) {a : Addr} (ha : FrA env a) (hb : B a = none) : a ∉ σ.map Prod.fst := by
  rcases ha with rfl | ⟨x, e⟩
  · exact F.offL
  · obtain ⟨_, _, d⟩ := F.cells x a e
    split at d
    · exact d.2
    · obtain ⟨o, ho⟩ := d; rw [hb] at ho; cases ho
theorem FR.ext {B : Base} {h h' : Heap} {it : Addr} (F : FR B σ env wr m h) (H : Hid B σ env it) (hs : Heap.ExtBut it h h') : FR B σ env wr m h' :=
  F.keeps (fun a ha o e => hs a o (by rintro rfl; exact H.fr ha) e) (fun _ _ => rfl) fun a ha hb => F.off ha hb
/-- what runs while an object of the machine's own is kept -/
theorem W.hide {t : Sem α} {Q : α → FM → AH → Prop} (h : W g k env wr t Q m σ) {A : Around} {B : Base} {s : Shared} {it : Addr} {o : Obj} (ok : OkA k A) (S : SS g B σ s) (F : FR B σ env wr m s.heap) (H : Hid B σ env it) (ho : s.heap.get? it = some o) :
    wpAny (model g.prog g.w) A t (fun a s' => ∃ m' σ', SS g B σ' s' ∧ FR B σ' env wr m' s'.heap ∧ Hid B σ' env it ∧ s'.heap.get? it = some o ∧ Q a m' σ') (fun _ _ => False) s := by
  have hP : ∀ a, a ≠ it → (B.and s.heap (· = it)) a = B a := fun a ha => by
    cases hb : B a with
    | some o' => exact Base.and_old hb
    | none => exact Base.and_none hb ha
  have hit : (B.and s.heap (· = it)) it = some o := (Base.and_new (P := (· = it)) H.base rfl).trans ho
  refine wpAny_mono (h A (B.and s.heap (· = it)) s ok (S.and _ fun a ha e => H.off (e ▸ ha)) (F.keeps (fun _ _ _ e => e) (fun a ha => hP a (by rintro rfl; exact H.fr ha)) fun a ha hb => F.off ha hb)) ?_ fun _ _ e => e
  rintro a s' ⟨m', σ', S', F', q⟩
  have hoff : it ∉ σ'.map Prod.fst := by
    intro hm
    obtain ⟨p, hp, rfl⟩ := List.mem_map.mp hm
    have := (S'.own p hp).1
    rw [hit] at this; cases this
  exact ⟨m', σ', S'.back S.ge, F'.keeps (fun _ _ _ e => e) (fun a ha => (hP a (by rintro rfl; exact H.fr ha)).symm) (fun a ha hb => F'.off ha hb),
    ⟨H.base, hoff, H.fr⟩, S'.keep _ _ hit, q⟩
theorem WX.forName {x : Str} {p pos : Pos} {iter : Expr} {body : List Stmt} {rest : List Stmt} {Q : Flow → FM → AH → Prop} (vs : List Value) (dep : Value → AH → Prop) (I : Value → Nat → FM → AH → Prop)
    (hst : ∀ (u : Value) (Q' : FM → AH → Prop) (m : FM) (σ : AH), Q' ((x, er u) :: m) σ → W g k env wr (storeName env x u) (fun _ m σ => Q' m σ) m σ)
    (h : WV g k env wr (eval iter env) (fun it m σ => Iterable g it vs (dep it) σ ∧ I it 0 m σ) m σ)
    (hd : ∀ it i m σ, I it i m σ → dep it σ)
    (turn : ∀ it i m σ v, vs[i]? = some v → I it i m σ → WX g k env wr body (fun f m σ => match f with
        | .next | .cont => I it (i + 1) m σ
        | .brk => WX g k env wr rest Q m σ
        | .ret v => Q (.ret v) m σ) ((x, v) :: m) σ)
    (fin : ∀ it m σ, I it vs.length m σ → WX g k env wr rest Q m σ)
    (hs : ∀ x, foldedSetIterable iter env x = pure x := by intro _; rfl) : WX g k env wr (.For (.Name x p) iter body [] pos :: rest) Q m σ := by
  refine WX.cons fun A B s ok S F => ?_
  refine wpAny_For (wpAny_mono (h A B s ok S F) ?_ fun _ _ e => e) hs
  rintro u s1 ⟨m1, σ1, S1, F1, hI, h1⟩
  refine hI A B s1 u _ _ ok.handled S1 rfl fun it o J N J0 hit => ?_
  subst hit
  refine codeAny_mono (R := fun r s' => match r with | .ok f => (∃ m' σ', SS g B σ' s' ∧ FR B σ' env wr m' s'.heap ∧ thenX g k env wr rest Q (erF f) m' σ') | .error _ => False) ?_ ?_
  · refine codeAny_forLoop (fun n s => ∃ m σ i o, SS g B σ s ∧ FR B σ env wr m s.heap ∧ Hid B σ env s1.heap.objs.size ∧ s.heap.get? s1.heap.objs.size = some o ∧ J i o ∧ I (er u) i m σ ∧ i ≤ vs.length ∧ n = vs.length - i) ?_ (vs.length)
      ⟨m1, σ1, 0, o, S1.pushed o, F1.more fun b o' e => Heap.get?_push_of_some _ e, Hid.new S1 F1, Heap.get?_push_size _ (N.live _ _ J0), J0, h1, Nat.zero_le _, rfl⟩
    rintro n s ⟨m, σ, i, o, S, F, H, ho, Ji, hi, hle, rfl⟩
    cases hv : vs[i]? with
    | none =>
      have hlen : i = vs.length := by have := List.getElem?_eq_none_iff.mp hv; omega
      subst hlen
      refine wpAny_gain S.pos (N.done ok.handled S (hd _ _ _ _ hi) ho Ji hv fun h' tk hx hp => ?_)
      exact wpAny_execs_nil ⟨m, σ, (S.ext hx H.base H.off).tok tk, F.ext H hx, fin _ m σ hi⟩
    | some v =>
      have hlt : i < vs.length := (List.getElem?_eq_some_iff.mp hv).1
      refine wpAny_gain S.pos (N.item ok.handled S (hd _ _ _ _ hi) ho Ji hv fun u' h' tk o' hu ho' Jo hx hp => ?_)
      refine wpAny_assign_Name ?_
      have S' := (S.ext hx H.base H.off).tok tk
      have F' := F.ext H hx
      refine wpAny_mono (W.hide (hst u' _ m σ (hu.symm ▸ turn _ i m σ v hv hi)) ok S' F' H ho') ?_ fun _ _ e => e.elim
      rintro _ s2 ⟨m2, σ2, S2, F2, H2, ho2, h2⟩
      refine wpAny_mono (W.hide h2 ok S2 F2 H2 ho2) ?_ fun _ _ e => e.elim
      rintro f s3 ⟨m3, σ3, S3, F3, H3, ho3, h3⟩
      cases f with
      | next => exact ⟨_, by omega, m3, σ3, i + 1, o', S3, F3, H3, ho3, Jo, h3, hlt, rfl⟩
      | cont => exact ⟨_, by omega, m3, σ3, i + 1, o', S3, F3, H3, ho3, Jo, h3, hlt, rfl⟩
      | brk => exact ⟨m3, σ3, S3, F3, h3⟩
      | ret v => exact ⟨m3, σ3, S3, F3, h3⟩
  · rintro r s' h'
    cases r with
    | ok f => exact h'
    | error e => exact h'.elim
/-- nothing to walk over: whatever the target -/
theorem WX.forNil {target : Expr} {pos : Pos} {iter : Expr} {body : List Stmt} {rest : List Stmt} {Q : Flow → FM → AH → Prop} (dep : AH → Prop)
    (h : WV g k env wr (eval iter env) (fun it m σ => Iterable g it [] dep σ ∧ dep σ ∧ WX g k env wr rest Q m σ) m σ)
    (hs : ∀ x, foldedSetIterable iter env x = pure x := by intro _; rfl) : WX g k env wr (.For target iter body [] pos :: rest) Q m σ := by
  refine WX.cons fun A B s ok S F => ?_
  refine wpAny_For (wpAny_mono (h A B s ok S F) ?_ fun _ _ e => e) hs
  rintro u s1 ⟨m1, σ1, S1, F1, hI, hd, h1⟩
  refine hI A B s1 u _ _ ok.handled S1 rfl fun it o J N J0 hit => ?_
  subst hit
  refine codeAny_mono (R := fun r s' => match r with | .ok f => (∃ m' σ', SS g B σ' s' ∧ FR B σ' env wr m' s'.heap ∧ thenX g k env wr rest Q (erF f) m' σ') | .error _ => False) ?_ ?_
  · refine codeAny_forLoop_any (fun n s => s = { s1 with heap := s1.heap.push o }) ?_ 0 rfl
    rintro n s rfl
    have H := Hid.new S1 F1
    have S := S1.pushed o
    have F := F1.more fun b o' e => Heap.get?_push_of_some o e
    refine wpAny_gain S.pos (N.done ok.handled S hd (Heap.get?_push_size _ (N.live _ _ J0)) J0 rfl fun h' tk hx hp => ?_)
    exact wpAny_execs_nil ⟨m1, σ1, (S.ext hx H.base H.off).tok tk, F.ext H hx, h1⟩
  · rintro r s' h'
    cases r with
    | ok f => exact h'
    | error e => exact h'.elim
end
end Mine
/- R3 -/
namespace Mine
open PySem PySem.W PySem.Calls PyProof.Rows
section
variable {α β : Type} {g : Gh} {k : Nat} {env : Env} {wr : List Str} {m : FM} {σ : AH}
/-- arguments by place -/
noncomputable def WA (g : Gh) (k : Nat) (env : Env) (wr : List Str) (pos : Pos) (es : List Expr) (Q : List Value → FM → AH → Prop) (m : FM) (σ : AH) : Prop := W g k env wr (spliced (backTo pos (starEach es env))) (fun vs m σ => Q (vs.map er) m σ) m σ
theorem WA.nil {pos : Pos} {Q : List Value → FM → AH → Prop} (h : Q [] m σ) : WA g k env wr pos [] Q m σ := fun A B s ok S F => Calls.spliced_nil ⟨m, σ, S, F, h⟩
theorem WA.cons {pos : Pos} {e : Expr} {es : List Expr} {Q : List Value → FM → AH → Prop} (h : WV g k env wr (eval e env) (fun v m σ => WA g k env wr pos es (fun vs m σ => Q (v :: vs) m σ) m σ) m σ)
    (he : starEach (e :: es) env = (false, eval e env) :: starEach es env := by rfl) : WA g k env wr pos (e :: es) Q m σ := by
  intro A B s ok S F
  rw [he]
  refine Calls.spliced_cons (wpAny_mono (h A B s ok S F) ?_ fun _ _ e => e)
  rintro v s1 ⟨m1, σ1, S1, F1, h1⟩
  exact h1 A B s1 ok S1 F1
/-- arguments by name -/
noncomputable def WK (g : Gh) (k : Nat) (env : Env) (wr : List Str) (pos : Pos) (kws : List Keyword) (Q : FM → FM → AH → Prop) (m : FM) (σ : AH) : Prop :=
  W g k env wr (evalAll ((backToKw pos (keywordEach kws env)).map (·.2))) (fun vs m σ => Q ((kws.filterMap (·.arg)).zip (vs.map er)) m σ) m σ
theorem WK.nil {pos : Pos} {Q : FM → FM → AH → Prop} (h : Q [] m σ) : WK g k env wr pos [] Q m σ := fun A B s ok S F => wpAny_evalAll_nil ⟨m, σ, S, F, h⟩
theorem WK.cons {pos p : Pos} {x : Str} {e : Expr} {kws : List Keyword} {Q : FM → FM → AH → Prop} (h : WV g k env wr (eval e env) (fun v m σ => WK g k env wr pos kws (fun vs m σ => Q ((x, v) :: vs) m σ) m σ) m σ) :
    WK g k env wr pos (⟨some x, e, p⟩ :: kws) Q m σ := by
  intro A B s ok S F
  refine kwAll_cons (wpAny_mono (h A B s ok S F) ?_ fun _ _ e => e)
  rintro v s1 ⟨m1, σ1, S1, F1, h1⟩
  exact h1 A B s1 ok S1 F1
/-- a call at the call level -/
noncomputable def CK (g : Gh) (k : Nat) (f : Value) (args : List Value) (kws : FM) (Q : Value → AH → Prop) (σ : AH) : Prop :=
  ∀ (args' : List Value) (kw' : List (Str × Value)), args'.map er = args → kw'.map (fun p => (p.1, er p.2)) = kws → CV g k (call f args' kw') Q σ
/-- what the machine looks up of a callee -/
noncomputable def KP (g : Gh) (f : Value) : Prop := (∀ u, er u = f → u = f) ∧ ∀ h, g.K.In h → ∃ q, (q = Keeper.frame ∨ q = Keeper.machine ∨ q = Keeper.boundFrame) ∧ Looks (model g.prog g.w) h (keeperOf f) q
theorem KP.fn {a : Addr} (h : keepIn g.K (.ref a) = true) : KP g (.ref a) := ⟨fun u => er_ref, fun hp X => let ⟨q, a, b⟩ := looks_keep h X; ⟨q, a.elim .inl fun e => .inr (.inl e), b⟩⟩
theorem KP.builtin {i : String} : KP g (.builtin i) := ⟨fun u => er_builtin, fun hp X => ⟨.machine, .inr (.inl rfl), Looks.of_pure rfl⟩⟩
theorem KP.type {i : String} : KP g (.type i) := ⟨fun u => er_type, fun hp X => ⟨.machine, .inr (.inl rfl), Looks.of_pure rfl⟩⟩
theorem starEach_plain {es : List Expr} (h : (starEach es env).any (·.1) = false) (pos : Pos) : (backTo pos (starEach es env)).any (·.1) = false := by
  simpa [backTo, List.any_map, Function.comp_def] using h
theorem starEach_head {e : Expr} {es : List Expr} (h : (starEach (e :: es) env).any (·.1) = false) : starEach (e :: es) env = (false, eval e env) :: starEach es env := by
  cases e <;> first | rfl | exact Bool.noConfusion (show true = false from h)
theorem keywordEach_map : ∀ (kws : List Keyword) (pos : Pos), (backToKw pos (keywordEach kws env)).filterMap (·.1) = kws.filterMap (·.arg)
  | [], _ => rfl
  | ⟨n, v, p⟩ :: r, pos => by
    have := keywordEach_map r pos
    simp only [keywordEach, backToKw, List.map_cons, List.filterMap_cons] at this ⊢
    cases n <;> simp_all
theorem keywordEach_all : ∀ (kws : List Keyword) (pos : Pos), kws.all (·.arg.isSome) = true → (backToKw pos (keywordEach kws env)).all (·.1.isSome) = true
  | [], _, _ => rfl
  | ⟨n, v, p⟩ :: r, pos, h => by
    rw [List.all_cons, Bool.and_eq_true] at h
    have := keywordEach_all r pos h.2
    simp only [keywordEach, backToKw, List.map_cons, List.all_cons] at this ⊢
    rw [this, h.1]; rfl
theorem zip_er : ∀ (ns : List Str) (vs : List Value), (ns.zip vs).map (fun p => (p.1, er p.2)) = ns.zip (vs.map er)
  | [], _ => rfl
  | _ :: _, [] => rfl
  | n :: ns, v :: vs => by simp [zip_er ns vs]
theorem keywordEach_anyNone : ∀ (kws : List Keyword) (pos : Pos), kws.all (·.arg.isSome) = true → (backToKw pos (keywordEach kws env)).any (·.1.isNone) = false
  | [], _, _ => rfl
  | ⟨n, v, p⟩ :: r, pos, h => by
    rw [List.all_cons, Bool.and_eq_true] at h
    have := keywordEach_anyNone r pos h.2
    simp only [keywordEach, backToKw, List.map_cons, List.any_cons] at this ⊢
    rw [this]
    cases n <;> simp_all
theorem evalArgs_any {M : Model} {A : Around} {E : Value → Shared → Prop} {s : Shared} {f : Value} {args : List (Bool × Sem Value)} {keywords : List (Option Str × Sem Value)} {Q : Args → Shared → Prop} (hp : args.any (·.1) = false)
    (hall : keywords.all (·.1.isSome) = true)
    (h : wpAny M A (spliced args) (fun vs s₁ => wpAny M A (evalAll (keywords.map (·.2))) (fun ks s₂ => Q ⟨vs, (keywords.filterMap (·.1)).zip ks⟩ s₂) E s₁) E s) :
    wpAny M A (evalArgs f true args keywords) Q E s := by
  match args, hp, h with
  | [], _, h => 
    unfold evalArgs
    show wpAny M A (spliced [] >>= _) Q E s
    refine wpAny_bind (wpAny_mono h (fun vs s₁ h₁ => ?_) fun _ _ x => x)
    refine wpAny_holding ?_
    simp only [hall, if_true]
    refine wpAny_bind (wpAny_mono h₁ (fun ks s₂ h₂ => ?_) fun _ _ x => x)
    exact wpAny_bind (wpAny_pure (wpAny_pure h₂))
  | (true, x) :: r, hp, _ => simp at hp
  | (false, x) :: r, _, h => exact evalArgs_kw hall h
theorem W.callWithKw {f : Value} {first : List Value} {pos : Pos} {es : List Expr} {kws : List Keyword} {Q : Value → FM → AH → Prop} (hk : KP g f)
    (h : WA g k env wr pos es (fun vs m σ => WK g k env wr pos kws (fun ks m σ => CK g k f (first.map er ++ vs) ks (fun r σ => Q r m σ) σ) m σ) m σ)
    (hp : (starEach es env).any (·.1) = false) (hs : kws.all (·.arg.isSome) = true) : WV g k env wr (callWith pos f first (backTo pos (starEach es env)) (backToKw pos (keywordEach kws env))) Q m σ := by
  intro A B s ok S F
  refine callWith_of (P := g.K.In) (by rw [starEach_plain hp, keywordEach_anyNone kws pos hs]; rfl) hk.2 ?_
  have fin : ∀ (vs ks : List Value) (s1 : Shared), (∃ m' σ', SS g B σ' s1 ∧ FR B σ' env wr m' s1.heap ∧ CK g k f (first.map er ++ vs.map er) ((kws.filterMap (·.arg)).zip (ks.map er)) (fun r σ => Q r m' σ) σ') →
      g.K.In s1.heap ∧ wpAny (model g.prog g.w) A (call f (first ++ vs) (((backToKw pos (keywordEach kws env)).filterMap (·.1)).zip ks)) (fun a s' => ∃ m' σ', SS g B σ' s' ∧ FR B σ' env wr m' s'.heap ∧ Q (er a) m' σ') (fun _ _ => False) s1 := by
    rintro vs ks s1 ⟨m1, σ1, S1, F1, h1⟩
    exact ⟨S1.ok.hK.keeps S1.h0, W.of_C (h1 (first ++ vs) _ (by simp) (by rw [keywordEach_map, zip_er])) A B s1 ok S1 F1⟩
  have key : wpAny (model g.prog g.w) A (spliced (backTo pos (starEach es env))) (fun vs s₁ => wpAny (model g.prog g.w) A (evalAll ((backToKw pos (keywordEach kws env)).map (·.2))) (fun ks s₂ =>
      g.K.In s₂.heap ∧ wpAny (model g.prog g.w) A (call f (first ++ vs) (((backToKw pos (keywordEach kws env)).filterMap (·.1)).zip ks)) (fun a s' => ∃ m' σ', SS g B σ' s' ∧ FR B σ' env wr m' s'.heap ∧ Q (er a) m' σ') (fun _ _ => False) s₂) (fun _ _ => False) s₁) (fun _ _ => False) s := by
    refine wpAny_mono (h A B s ok S F) ?_ fun _ _ e => e
    rintro vs s1 ⟨m1, σ1, S1, F1, h1⟩
    refine wpAny_mono (h1 A B s1 ok S1 F1) ?_ fun _ _ e => e
    rintro ks s2 ⟨m2, σ2, S2, F2, h2⟩
    exact fin vs ks s2 ⟨m2, σ2, S2, F2, h2⟩
  exact evalArgs_any (starEach_plain hp pos) (keywordEach_all kws pos hs) key
theorem W.callWith {f : Value} {first : List Value} {pos : Pos} {es : List Expr} {Q : Value → FM → AH → Prop} (hk : KP g f)
    (h : WA g k env wr pos es (fun vs m σ => CK g k f (first.map er ++ vs) [] (fun r σ => Q r m σ) σ) m σ)
    (hp : (starEach es env).any (·.1) = false) : WV g k env wr (callWith pos f first (backTo pos (starEach es env)) []) Q m σ :=
  W.callWithKw (kws := []) hk (h.mono fun vs m σ h => WK.nil h) hp rfl
theorem W.callName {id : Str} {p pos : Pos} {es : List Expr} {Q : Value → FM → AH → Prop}
    (h : WV g k env wr (eval (.Name id p) env) (fun f m σ => KP g f ∧ WA g k env wr pos es (fun vs m σ => CK g k f vs [] (fun r σ => Q r m σ) σ) m σ) m σ)
    (hp : (starEach es env).any (·.1) = false := by rfl) : WV g k env wr (eval (.Call (.Name id p) es [] pos) env) Q m σ := by
  intro A B s ok S F
  refine wpAny_Call_NameR (wpAny_mono (h A B s ok S F) ?_ fun _ _ e => e)
  rintro f s1 ⟨m1, σ1, S1, F1, hk, h1⟩
  have := hk.1 f rfl
  rw [← this] at h1 hk
  exact W.callWith hk h1 hp A B s1 ok S1 F1
end
end Mine
/- R4 -/
namespace Mine
open PySem PySem.W PySem.Calls PyProof.Rows
theorem OkA.in1 {k : Nat} {A : Around} (h : OkA (k + 1) A) : OkA k A.in1 := ⟨h.handled, by have := h.depth; show A.depth + k ≤ 800; omega, by have := h.units; show A.units + 1 + 10 * k ≤ 9000; omega⟩
theorem OkA.deeper {k : Nat} {A : Around} {env : Env} (h : OkA (k + 1) A) : OkA k (A.deeper env) := ⟨h.handled, by have := h.depth; show A.depth + 1 + k ≤ 800; omega, by have := h.units; show A.units + 3 + 10 * k ≤ 9000; omega⟩
theorem bindL_off {kind : Str → Option NameKind} {x : Str} : ∀ (r : List (Str × Value)) (m : Str → Option Value), x ∉ r.map Prod.fst → bindL kind r m x = m x
  | [], _, _ => rfl
  | (y, w) :: r, m, hx => by
    rw [List.map_cons, List.mem_cons, not_or] at hx
    unfold bindL
    rw [bindL_off r _ hx.2]
    split
    · exact if_neg hx.1
    · rfl
theorem bindC_off {kind : Str → Option NameKind} {x : Str} : ∀ (r : List (Str × Value)) (m : Str → Option Value), x ∉ r.map Prod.fst → bindC kind r m x = m x
  | [], _, _ => rfl
  | (y, w) :: r, m, hx => by
    rw [List.map_cons, List.mem_cons, not_or] at hx
    unfold bindC
    rw [bindC_off r _ hx.2]
    split
    · rfl
    · exact if_neg hx.1
theorem bindL_look {kind : Str → Option NameKind} (binds : List (Str × Value)) : ∀ (m : Str → Option Value) (x : Str) (v : Value), (binds.map Prod.fst).Nodup → (x, v) ∈ binds → kind x = some .local → bindL kind binds m x = some v := by
  induction binds with
  | nil => intro _ _ _ _ hm; exact absurd hm List.not_mem_nil
  | cons q r ih =>
    intro m x v hn hm hk
    rw [List.map_cons, List.nodup_cons] at hn
    unfold bindL
    rcases List.mem_cons.mp hm with e | hm
    · cases e
      rw [if_pos hk, bindL_off r _ hn.1]; exact if_pos rfl
    · exact ih _ x v hn.2 hm hk
theorem bindC_look {kind : Str → Option NameKind} (binds : List (Str × Value)) : ∀ (m : Str → Option Value) (x : Str) (v : Value), (binds.map Prod.fst).Nodup → (x, v) ∈ binds → kind x ≠ some .local → bindC kind binds m x = some v := by
  induction binds with
  | nil => intro _ _ _ _ hm; exact absurd hm List.not_mem_nil
  | cons q r ih =>
    intro m x v hn hm hk
    rw [List.map_cons, List.nodup_cons] at hn
    unfold bindC
    rcases List.mem_cons.mp hm with e | hm
    · cases e
      rw [if_neg hk, bindC_off r _ hn.1]; exact if_pos rfl
    · exact ih _ x v hn.2 hm hk
theorem cellsFrom_has : ∀ (names : List (Str × NameKind)) (n : Nat) (acc : List (Str × Addr)) (x : Str), (∃ c, (cellsFrom n names acc).lookup x = some c) ↔ ((∃ c, acc.lookup x = some c) ∨ (x, NameKind.cell) ∈ names)
  | [], n, acc, x => by simp [cellsFrom]
  | (y, kd) :: r, n, acc, x => by
    unfold cellsFrom
    by_cases hk : (kd == NameKind.cell) = true
    · rw [if_pos hk, cellsFrom_has r (n + 1) ((y, n) :: acc) x]
      have hk' : kd = .cell := by cases kd <;> simp_all <;> cases hk
      subst hk'
      by_cases q : x = y
      · subst q
        simp [List.lookup_cons]
      · have q' : (x == y) = false := by simpa using q
        simp [List.lookup_cons, q', q]
    · rw [if_neg hk, cellsFrom_has r n acc x]
      have hk' : kd ≠ .cell := by rintro rfl; exact hk rfl
      simp [Ne.symm hk']
section
variable {α β : Type} {g : Gh} {k : Nat} {env : Env} {wr : List Str} {m : FM} {σ : AH}
noncomputable def erB (binds : List (Str × Value)) : FM := binds.map fun p => (p.1, er p.2)
theorem lookup_erB {binds : List (Str × Value)} {x : Str} {v : Value} (h : (erB binds).lookup x = some v) : ∃ u, (x, u) ∈ binds ∧ er u = v := by
  have := mem_of_lookup h
  obtain ⟨p, hp, e⟩ := List.mem_map.mp this
  cases e
  exact ⟨p.2, hp, rfl⟩
noncomputable def cellNames (sc : Scope) : List Str := sc.names.filterMap fun p => if p.2 == .cell then some p.1 else none
theorem mem_cellNames {sc : Scope} {x : Str} : x ∈ cellNames sc ↔ (x, NameKind.cell) ∈ sc.names := by
  unfold cellNames
  rw [List.mem_filterMap]
  constructor
  · rintro ⟨⟨y, kd⟩, hp, e⟩
    dsimp only at e
    split at e
    · rename_i q
      cases e
      have : kd = .cell := by cases kd <;> first | rfl | (exact absurd q (by decide))
      exact this ▸ hp
    · cases e
  · intro h
    exact ⟨(x, .cell), h, rfl⟩
theorem C.binds {fd : FuncData} {args' : List Value} {kw' : List (Str × Value)} {binds : List (Str × Value)} {Q : List (Str × Value) → AH → Prop} (e : peek g.K ⟨g.prog, g.w.params⟩ (bindArgs fd ⟨args', kw'⟩) = some binds) (h : Q binds σ) :
    C g k (bindArgs fd ⟨args', kw'⟩) Q σ := fun A B s ok S => (Looks.of_peek (M := model g.prog g.w) (S.ok.hK.keeps S.h0) e).here ⟨σ, S, h⟩
noncomputable def bindsOk (sc : Scope) : List Str → Bool
  | [] => true
  | x :: r => !r.contains x && (match sc.names.lookup x with | some .local => true | some .cell => true | _ => false) && bindsOk sc r
theorem bindsOk_iff {sc : Scope} : ∀ {l : List Str}, bindsOk sc l = true → l.Nodup ∧ ∀ x ∈ l, sc.names.lookup x = some .local ∨ sc.names.lookup x = some .cell
  | [], _ => ⟨List.nodup_nil, fun _ h => nomatch h⟩
  | x :: r, h => by
    simp only [bindsOk, Bool.and_eq_true, Bool.not_eq_true'] at h
    obtain ⟨⟨a, b⟩, c⟩ := h
    obtain ⟨d, e⟩ := bindsOk_iff c
    refine ⟨List.nodup_cons.mpr ⟨by simpa using a, d⟩, fun y hy => ?_⟩
    rcases List.mem_cons.mp hy with rfl | hy
    · split at b
      · rename_i q; exact .inl q
      · rename_i q; exact .inr q
      · cases b
    · exact e y hy
/-- a call, as code -/
noncomputable def CKc (g : Gh) (k : Nat) (f : Value) (args : List Value) (kws : FM) (Q : Value → AH → Prop) (σ : AH) : Prop :=
  ∀ (args' : List Value) (kw' : List (Str × Value)), args'.map er = args → kw'.map (fun p => (p.1, er p.2)) = kws → ∀ A B s, OkA k A → SS g B σ s →
    codeAny (model g.prog g.w) A (.call f ⟨args', kw'⟩) (fun r s' => match r with | .ok (.ret v) => (∃ σ', SS g B σ' s' ∧ Q (er v) σ') | .ok _ => False | .error _ => False) s
theorem CK.of_c {f : Value} {args : List Value} {kws : FM} {Q : Value → AH → Prop} (h : CKc g k f args kws Q σ) : CK g k f args kws Q σ := by
  intro args' kw' ha hk A B s ok S
  refine wpAny_call (codeAny_mono (h args' kw' ha hk A B s ok S) ?_)
  rintro r s' h'
  rcases r with e | (v | _ | _ | _) <;> exact h'
/-- a def is entered -/
theorem CKc.enter {f : Addr} {name qual : Str} {params : Arguments} {body : List Stmt} {scope : Scope} {dV kV doc pm cdv ct oc : Value} {an od : Option Addr} {osl : Array (Option Value)} {args : List Value} {kws : FM} {Q : Value → AH → Prop}
    (ho : g.K.lookup f = some ⟨oc, od, .func (fnOf name qual params body scope dV kV doc pm an cdv ct), osl⟩) (hcd : codeIn g.K cdv qual = true)
    (hk : scope.kind = .function) (hco : scope.isCoroutine = false) (hgen : scope.isGenerator = false)
    (hcn : cellNames scope = wr)
    (hbind : ∀ (args' : List Value) (kw' : List (Str × Value)), args'.map er = args → kw'.map (fun p => (p.1, er p.2)) = kws →
      C g k (bindArgs (fnOf name qual params body scope dV kV doc pm an cdv ct) ⟨args', kw'⟩) (fun binds σ' => bindsOk scope (binds.map Prod.fst) = true ∧
        ∀ env, env.scope = scope → WX g k env wr body (fun fl _ σ => Q (match fl with | .ret v => v | _ => .none) σ) (erB binds) σ') σ) :
    CKc g (k + 1) (.ref f) args kws Q σ := by
  have hwr : ∀ x, (x, NameKind.cell) ∈ scope.names → x ∈ wr := fun x hx => hcn ▸ mem_cellNames.mpr hx
  have hwr' : ∀ x ∈ wr, (x, NameKind.cell) ∈ scope.names := fun x hx => mem_cellNames.mp (hcn ▸ hx)
  intro args' kw' ha hkw A B s ok S
  have ho' := S.h0 _ _ (S.ok.hK _ _ ho)
  refine codeAny_call_function ok.room ho' rfl hco hgen rfl (codeRec_of (S.ok.hK.keeps S.h0) hcd) ?_
  refine wpAny_mono (hbind args' kw' ha hkw A.in1 B s ok.in1 S) ?_ fun _ _ e => e.elim
  rintro binds s1 ⟨σ1, S1, hbo, hw⟩
  obtain ⟨hnd, hloc'⟩ := bindsOk_iff hbo
  have hloc : ∀ x ∈ binds, scope.names.lookup x.1 = some .local ∨ (scope.names.lookup x.1 = some .cell) := fun x hx => hloc' x.1 (List.mem_map.mpr ⟨x, hx, rfl⟩)
  refine wpAny_gain S1.pos (wpAny_newFunctionEnv_cells hk (fun x hx => (hloc x hx).imp id fun e => ⟨e, ?_⟩) fun env he s2 x hp2 => ?_)
  · have : ∃ c, (cellsFrom (s1.heap.objs.size + 1) scope.names []).lookup x.1 = some c := (cellsFrom_has _ _ _ _).mpr (.inr (mem_of_lookup e))
    obtain ⟨c, hc⟩ := this; rw [hc]; rfl
  obtain ⟨⟨h2, tk2, rfl⟩, hns, hkeep, _⟩ := x.toInCall
  have hL : env.locals = s1.heap.objs.size := by rw [he]; rfl
  have hsc : env.scope = scope := by rw [he]; rfl
  have hcl : env.cells = cellsFrom (s1.heap.objs.size + 1) scope.names [] := by rw [he]; rfl
  have hkind : ∀ y, env.kindOf y = scope.names.lookup y := fun y => by unfold Env.kindOf; rw [hsc]
  have S2 : SS g B σ1 { s1 with heap := h2, toks := tk2 } := (S1.more hkeep).tok tk2
  have hnew : ∀ a, s1.heap.objs.size ≤ a → B a = none ∧ a ∉ σ1.map Prod.fst := fun a ha => by
    constructor
    · cases hb : B a with
      | none => rfl
      | some o => exact absurd (Heap.lt_size (S1.keep _ _ hb)) (Nat.not_lt.mpr ha)
    · intro hm
      obtain ⟨p, hp, e⟩ := List.mem_map.mp hm
      obtain ⟨_, o, hp', _⟩ := S1.own p hp
      rw [e] at hp'
      exact absurd (Heap.lt_size hp') (Nat.not_lt.mpr ha)
  have F2 : FR B σ1 env wr (erB binds) h2 := by
    refine ⟨by rw [hsc]; exact hk, by rw [he]; rfl, by rw [he]; rfl, ⟨_, hns, fun y v e hy => ?_⟩, ?_, ?_, fun y v e hy => ?_, fun y c e => ?_, fun y z c e1 e2 => ?_, fun y hy => ?_⟩
    · obtain ⟨u, hu, rfl⟩ := lookup_erB e
      exact ⟨u, bindL_look binds _ y u hnd hu hy, rfl⟩
    · rw [hL]; exact (hnew _ (Nat.le_refl _)).1
    · rw [hL]; exact (hnew _ (Nat.le_refl _)).2
    · obtain ⟨u, hu, rfl⟩ := lookup_erB e
      have hc : scope.names.lookup y = some .cell := by
        rcases hloc _ hu with q | q
        · exact absurd ((hkind y).trans q) hy
        · exact q
      obtain ⟨c, hc'⟩ := (cellsFrom_has scope.names (s1.heap.objs.size + 1) [] y).mpr (.inr (mem_of_lookup hc))
      rw [← hcl] at hc'
      refine ⟨c, u, hc', ?_, rfl⟩
      have := x.cell y c hc'
      rwa [bindC_look binds _ y u hnd hu hy] at this
    · have hlt := x.above y c (mem_of_lookup e)
      refine ⟨Nat.ne_of_gt hlt, ⟨_, x.cell y c e⟩, ?_⟩
      have hy : y ∈ wr := by
        rcases (cellsFrom_has scope.names (s1.heap.objs.size + 1) [] y).mp ⟨c, hcl ▸ e⟩ with ⟨_, q⟩ | q
        · cases q
        · exact hwr y q
      rw [if_pos hy]
      exact hnew c (Nat.le_of_lt (hL ▸ hlt))
    · exact name_of_addr x.apart (mem_of_lookup e1) (mem_of_lookup e2)
    · obtain ⟨c, hc⟩ := (cellsFrom_has scope.names (s1.heap.objs.size + 1) [] y).mpr (.inr (hwr' y hy))
      exact ⟨c, hcl ▸ hc⟩
  refine ⟨S1.ok.nolimit.keeps (fun b o e => hkeep b o (S1.h0 b o e)), codeAny_func ?_⟩
  refine wpAny_mono (hw env hsc (A.deeper env) B _ ok.deeper S2 F2) ?_ fun _ _ e => e.elim
  rintro fl s3 ⟨m3, σ3, S3, F3, q⟩
  refine ⟨σ3, S3, ?_⟩
  cases fl <;> exact q
theorem CK.enter {f : Addr} {name qual : Str} {params : Arguments} {body : List Stmt} {scope : Scope} {dV kV doc pm cdv ct oc : Value} {an od : Option Addr} {osl : Array (Option Value)} {args : List Value} {kws : FM} {Q : Value → AH → Prop}
    (ho : g.K.lookup f = some ⟨oc, od, .func (fnOf name qual params body scope dV kV doc pm an cdv ct), osl⟩) (hcd : codeIn g.K cdv qual = true)
    (hk : scope.kind = .function) (hco : scope.isCoroutine = false) (hgen : scope.isGenerator = false)
    (hcn : cellNames scope = wr)
    (hbind : ∀ (args' : List Value) (kw' : List (Str × Value)), args'.map er = args → kw'.map (fun p => (p.1, er p.2)) = kws →
      C g k (bindArgs (fnOf name qual params body scope dV kV doc pm an cdv ct) ⟨args', kw'⟩) (fun binds σ' => bindsOk scope (binds.map Prod.fst) = true ∧
        ∀ env, env.scope = scope → WX g k env wr body (fun fl _ σ => Q (match fl with | .ret v => v | _ => .none) σ) (erB binds) σ') σ) :
    CK g (k + 1) (.ref f) args kws Q σ := CK.of_c (CKc.enter ho hcd hk hco hgen hcn hbind)
end
end Mine
namespace Mine
open PySem
theorem er_none0 : er .none = .none := rfl
theorem er_ref0 (a : Addr) : er (.ref a) = .ref a := rfl
end Mine
/- R5 -/
namespace Mine
open PySem PySem.W PySem.Calls PyProof.Rows
/-- an object that is there to be read -/
noncomputable def Rd (g : Gh) (σ : AH) (a : Addr) (ao : AO) : Prop := (a, ao) ∈ σ ∨ ∃ o, g.h0.get? a = some o ∧ ao.Is o
theorem Rd.get {g : Gh} {B : Base} {σ : AH} {s : Shared} {a : Addr} {ao : AO} (h : Rd g σ a ao) (S : SS g B σ s) : ∃ o, s.heap.get? a = some o ∧ ao.Is o := by
  rcases h with h | ⟨o, h, i⟩
  · exact S.get h
  · exact ⟨o, S.h0 _ _ h, i⟩
theorem Rd.list {g : Gh} {B : Base} {σ : AH} {s : Shared} {a : Addr} {vs : List Value} (h : Rd g σ a (.list vs)) (S : SS g B σ s) : ∃ its : List Value, s.heap.IsList a its.toArray ∧ its.map er = vs := by
  obtain ⟨o, ho, its, n, rfl, e⟩ := h.get S
  exact ⟨its.toList, ⟨_, ho, rfl, n, by simp⟩, e⟩
theorem Rd.tup {g : Gh} {B : Base} {σ : AH} {s : Shared} {a : Addr} {vs : List Value} (h : Rd g σ a (.tup vs)) (S : SS g B σ s) : ∃ its : List Value, s.heap.IsTuple a its.toArray ∧ its.map er = vs := by
  obtain ⟨o, ho, its, n, rfl, e⟩ := h.get S
  exact ⟨its.toList, ⟨_, ho, rfl, n, by simp⟩, e⟩
section
variable {α β : Type} {g : Gh} {k : Nat} {env : Env} {wr : List Str} {m : FM} {σ : AH}
theorem BO.mulInt {x y : Int} {Q : Value → AH → Prop} (hm : IntMulOk x y) (h : Q (.int (x * y) 0) σ) : BO g k .Mult (.int x 0) (.int y 0) Q σ := by
  intro a b ha hb A B s ok S
  obtain ⟨t, rfl⟩ := er_int ha; obtain ⟨u, rfl⟩ := er_int hb
  exact P.mul_int ⟨σ, S.tok _, h⟩ hm
theorem BO.modInt {x y : Int} {Q : Value → AH → Prop} (h : Q (.int (x.fmod y) 0) σ) (hy : y ≠ 0 := by decide) : BO g k .Mod (.int x 0) (.int y 0) Q σ := by
  intro a b ha hb A B s ok S
  obtain ⟨t, rfl⟩ := er_int ha; obtain ⟨u, rfl⟩ := er_int hb
  exact PyProof.Rows.mod_int hy ⟨σ, S.tok _, h⟩
theorem BO.divInt {x y : Int} {Q : Value → AH → Prop} (h : Q (.int (x.fdiv y) 0) σ) (hy : y ≠ 0 := by decide) (hs : y.natAbs < 1073741824 := by decide) : BO g k .FloorDiv (.int x 0) (.int y 0) Q σ := by
  intro a b ha hb A B s ok S
  obtain ⟨t, rfl⟩ := er_int ha; obtain ⟨u, rfl⟩ := er_int hb
  exact PyProof.Rows.floordiv_int hy ⟨σ, S.tok _, h⟩ (.inl (PyProof.noPylong_small hs))
theorem CO.ltInt {x y : Int} {Q : Value → AH → Prop} (h : Q (.bool (decide (x < y))) σ) : CO g k .Lt (.int x 0) (.int y 0) Q σ := by
  intro a b ha hb A B s ok S
  obtain ⟨t, rfl⟩ := er_int ha; obtain ⟨u, rfl⟩ := er_int hb
  exact P.lt_int ⟨σ, S, h⟩
theorem CO.geInt {x y : Int} {Q : Value → AH → Prop} (h : Q (.bool (decide (x ≥ y))) σ) : CO g k .GtE (.int x 0) (.int y 0) Q σ := by
  intro a b ha hb A B s ok S
  obtain ⟨t, rfl⟩ := er_int ha; obtain ⟨u, rfl⟩ := er_int hb
  exact P.ge_int ⟨σ, S, h⟩
theorem CO.gtInt {x y : Int} {Q : Value → AH → Prop} (h : Q (.bool (decide (x > y))) σ) : CO g k .Gt (.int x 0) (.int y 0) Q σ := by
  intro a b ha hb A B s ok S
  obtain ⟨t, rfl⟩ := er_int ha; obtain ⟨u, rfl⟩ := er_int hb
  exact P.gt_int ⟨σ, S, h⟩
theorem CO.eqInt {x y : Int} {Q : Value → AH → Prop} (h : Q (.bool (x == y)) σ) : CO g k .Eq (.int x 0) (.int y 0) Q σ := by
  intro a b ha hb A B s ok S
  obtain ⟨t, rfl⟩ := er_int ha; obtain ⟨u, rfl⟩ := er_int hb
  exact P.eq_int ⟨σ, S, h⟩
/-- is, by value kinds that bear no identity of their own -/
theorem CO.isNone {x : Value} {Q : Value → AH → Prop} (h : Q (.bool (x == .none)) σ) (hx : ∀ v, er v = x → plainIs v .none = true ∧ (v == .none) = (x == .none)) : CO g k .Is x .none Q σ := by
  intro a b ha hb A B s ok S
  rw [er_none hb]
  obtain ⟨q, e⟩ := hx a ha
  exact wpAny_is_plain q ⟨σ, S, by rw [e]; exact h⟩
theorem CO.isNotNone {x : Value} {Q : Value → AH → Prop} (h : Q (.bool (!(x == .none))) σ) (hx : ∀ v, er v = x → plainIs v .none = true ∧ (v == .none) = (x == .none)) : CO g k .IsNot x .none Q σ := by
  intro a b ha hb A B s ok S
  rw [er_none hb]
  obtain ⟨q, e⟩ := hx a ha
  exact wpAny_isNot_plain q ⟨σ, S, by rw [e]; exact h⟩
theorem isN_none (v : Value) (h : er v = .none) : plainIs v .none = true ∧ (v == .none) = ((Value.none : Value) == .none) := by rw [er_none h]; exact ⟨rfl, rfl⟩
theorem isN_int {i : Int} (v : Value) (h : er v = .int i 0) : plainIs v .none = true ∧ (v == .none) = ((Value.int i 0 : Value) == .none) := by obtain ⟨t, rfl⟩ := er_int h; exact ⟨rfl, rfl⟩
theorem isN_str {x : Str} (v : Value) (h : er v = .str x 0) : plainIs v .none = true ∧ (v == .none) = ((Value.str x 0 : Value) == .none) := by obtain ⟨t, rfl⟩ := er_str h; exact ⟨rfl, rfl⟩
theorem isN_ref {a : Addr} (v : Value) (h : er v = .ref a) : plainIs v .none = true ∧ (v == .none) = ((Value.ref a : Value) == .none) := by rw [er_ref h]; exact ⟨rfl, rfl⟩
/- subscripts -/
noncomputable def SB (g : Gh) (k : Nat) (value slice : Expr) (o i : Value) (Q : Value → AH → Prop) (σ : AH) : Prop := ∀ a b, er a = o → er b = i → CV g k (subscriptTail value slice a b) Q σ
theorem W.subscript {value slice : Expr} {pos : Pos} {Q : Value → FM → AH → Prop}
    (h : WV g k env wr (eval value env) (fun o m σ => WV g k env wr (eval slice env) (fun i m σ => SB g k value slice o i (fun z σ => Q z m σ) σ) m σ) m σ) : WV g k env wr (eval (.Subscript value slice pos) env) Q m σ := by
  intro A B s ok S F
  refine Subscript_ (wpAny_mono (h A B s ok S F) ?_ fun _ _ e => e)
  rintro a s1 ⟨m1, σ1, S1, F1, h1⟩
  refine wpAny_mono (h1 A B s1 ok S1 F1) ?_ fun _ _ e => e
  rintro b s2 ⟨m2, σ2, S2, F2, h2⟩
  exact W.of_C (h2 a b rfl rfl) A B s2 ok S2 F2
theorem map_er_get {its vs : List Value} (h : its.map er = vs) {i : Nat} {v : Value} (e : vs[i]? = some v) : ∃ u, its[i]? = some u ∧ er u = v := by
  subst h
  rw [List.getElem?_map] at e
  obtain ⟨u, hu, e⟩ := Option.map_eq_some_iff.mp e
  exact ⟨u, hu, e⟩
theorem SB.list {value slice : Expr} {a : Addr} {vs : List Value} {i : Int} {v : Value} {Q : Value → AH → Prop} (hr : Rd g σ a (.list vs)) (h0 : 0 ≤ i) (hhi : i < 2 ^ 63) (hx : vs[i.toNat]? = some v) (h : Q v σ)
    (hs : ∀ u : Tok, subscripted slice false (.ref a) (.int i u) = operate [.ref a, .int i u] (getItem (.ref a) (.int i u)) := by intro _; with_unfolding_all rfl) : SB g k value slice (.ref a) (.int i 0) Q σ := by
  intro x y hx' hy A B s ok S
  rw [er_ref hx']
  obtain ⟨t, rfl⟩ := er_int hy
  obtain ⟨its, hl, e⟩ := hr.list S
  obtain ⟨u, hu, rfl⟩ := map_er_get e hx
  exact tail_any hl.typeIs slot_list_getitem.lookup (wpAny_getItem_list hl h0 hhi (by simpa using hu) ⟨σ, S, h⟩) (hs t)
/- len -/
theorem CK.len {a : Addr} {vs : List Value} {Q : Value → AH → Prop} (hr : Rd g σ a (.list vs)) (hfit : (vs.length : Int) < 2 ^ 63) (h : Q (.int vs.length 0) σ) : CK g k (.builtin "len") [.ref a] [] Q σ := by
  intro args kw ha hk A B s ok S
  obtain ⟨x, rfl, hx⟩ := List.map_eq_singleton_iff.mp ha
  rw [er_ref hx]
  cases List.map_eq_nil_iff.mp hk
  obtain ⟨its, hl, e⟩ := hr.list S
  have hlen : its.length = vs.length := by rw [← e, List.length_map]
  refine PyProof.Rows.len_list hl (by simpa [hlen] using hfit) ⟨σ, (S.tok (s.toks + 1)).tok _, ?_⟩
  show Q (.int (its.toArray.size : Int) 0) σ
  rw [List.size_toArray, hlen]; exact h
/- methods of a type of the machine's own -/
noncomputable def TyIs (g : Gh) (σ : AH) (v : Value) (T : String) : Prop := ∀ B s u, SS g B σ s → er u = v → s.TypeIs u T ∧ ∀ a, u = .ref a → ∃ ob, s.heap.get? a = some ob ∧ ob.dict = none
theorem TyIs.list {a : Addr} {vs : List Value} (h : Rd g σ a (.list vs)) : TyIs g σ (.ref a) "list" := by
  intro B s u S hu
  rw [er_ref hu]
  obtain ⟨o, ho, its, n, rfl, e⟩ := h.get S
  exact ⟨⟨_, ho, rfl⟩, fun b e => by cases e; exact ⟨_, ho, rfl⟩⟩
theorem TyIs.tup {a : Addr} {vs : List Value} (h : Rd g σ a (.tup vs)) : TyIs g σ (.ref a) "tuple" := by
  intro B s u S hu
  rw [er_ref hu]
  obtain ⟨o, ho, its, n, rfl, e⟩ := h.get S
  exact ⟨⟨_, ho, rfl⟩, fun b e => by cases e; exact ⟨_, ho, rfl⟩⟩
theorem TyIs.str {x : Str} : TyIs g σ (.str x 0) "str" := by
  intro B s u S hu
  obtain ⟨t, rfl⟩ := er_str hu
  exact ⟨typeIs_str s x t, fun a e => nomatch e⟩
theorem W.meth {o : Expr} {name : Str} {apos pos : Pos} {es : List Expr} {T id : String} {Q : Value → FM → AH → Prop} (pa : PlainAttrs T) (slot : Slot T name id) (hty : typeOf (.builtin id) = Pure.pure (Value.type "method_descriptor"))
    (h : WV g k env wr (eval o env) (fun ov m σ => TyIs g σ ov T ∧ WA g k env wr pos es (fun vs m σ => CK g k (.builtin id) (ov :: vs) [] (fun r σ => Q r m σ) σ) m σ) m σ)
    (hbase : attributeBase o name env (eval o env) = eval o env := by rfl)
    (hp : (starEach es env).any (·.1) = false := by rfl)
    (hfew : ((backTo pos (starEach es env)).all (fun x => !x.1) && (backToKw pos (keywordEach [] env)).all (fun x => x.1.isSome)
      && decide (es.length + ([] : List Keyword).length + (if ([] : List Keyword).isEmpty then 0 else 1) < 30)) = true := by rfl)
    (hline : (apos.endLine == pos.line) = true := by rfl) :
    WV g k env wr (eval (.Call (.Attribute o name apos) es [] pos) env) Q m σ := by
  intro A B s ok S F
  refine wpAny_Call_method hbase hfew hline pa slot hty (wpAny_mono (h A B s ok S F) ?_ fun _ _ e => e)
  rintro u s1 ⟨m1, σ1, S1, F1, ht, h1⟩
  obtain ⟨a, b⟩ := ht B s1 u S1 rfl
  exact ⟨a, b, W.callWith (first := [u]) KP.builtin h1 hp A B s1 ok S1 F1⟩
theorem args1 {args : List Value} {a : Value} (h : args.map er = [a]) : ∃ x, args = [x] ∧ er x = a := by
  obtain ⟨x, rfl, hx⟩ := List.map_eq_singleton_iff.mp h
  exact ⟨x, rfl, hx⟩
theorem args2 {args : List Value} {a b : Value} (h : args.map er = [a, b]) : ∃ x y, args = [x, y] ∧ er x = a ∧ er y = b := by
  obtain ⟨x, r, rfl, hx, hr⟩ := List.map_eq_cons_iff.mp h
  obtain ⟨y, rfl, hy⟩ := args1 hr
  exact ⟨x, y, rfl, hx, hy⟩
theorem args3 {args : List Value} {a b c : Value} (h : args.map er = [a, b, c]) : ∃ x y z, args = [x, y, z] ∧ er x = a ∧ er y = b ∧ er z = c := by
  obtain ⟨x, r, rfl, hx, hr⟩ := List.map_eq_cons_iff.mp h
  obtain ⟨y, z, rfl, hy, hz⟩ := args2 hr
  exact ⟨x, y, z, rfl, hx, hy, hz⟩
theorem args4 {args : List Value} {a b c d : Value} (h : args.map er = [a, b, c, d]) : ∃ x y z w, args = [x, y, z, w] ∧ er x = a ∧ er y = b ∧ er z = c ∧ er w = d := by
  obtain ⟨x, r, rfl, hx, hr⟩ := List.map_eq_cons_iff.mp h
  obtain ⟨y, z, w, rfl, hy, hz, hw⟩ := args3 hr
  exact ⟨x, y, z, w, rfl, hx, hy, hz, hw⟩
theorem args5 {args : List Value} {a b c d e : Value} (h : args.map er = [a, b, c, d, e]) : ∃ x y z w u, args = [x, y, z, w, u] ∧ er x = a ∧ er y = b ∧ er z = c ∧ er w = d ∧ er u = e := by
  obtain ⟨x, r, rfl, hx, hr⟩ := List.map_eq_cons_iff.mp h
  obtain ⟨y, z, w, u, rfl, hy, hz, hw, hu⟩ := args4 hr
  exact ⟨x, y, z, w, u, rfl, hx, hy, hz, hw, hu⟩
theorem CK.insert {i : Nat} {a : Addr} {vs : List Value} {x : Int} {v : Value} {Q : Value → AH → Prop} (hi : σ[i]? = some (a, .list vs)) (h0 : 0 ≤ x) (hx : x ≤ vs.length) (hsz : vs.length ≤ 1000000)
    (h : Q .none (σ.set i (a, .list (vs.take x.toNat ++ v :: vs.drop x.toNat)))) : CK g k (.builtin "list.insert") [.ref a, .int x 0, v] [] Q σ := by
  intro args kw ha hk A B s ok S
  obtain ⟨p, q, r, rfl, ha, hb, hc⟩ := args3 ha
  rw [er_ref ha]
  obtain ⟨t, rfl⟩ := er_int hb
  cases List.map_eq_nil_iff.mp hk
  obtain ⟨o, ho, its, n, rfl, e⟩ := S.get (List.mem_of_getElem? hi)
  have hlen : its.size = vs.length := by rw [← e]; simp
  have hfit : ¬(!Builtin.List.listFitsIndex x) = true := by rw [fitsIndex_of h0 (by omega)]; decide
  refine call_meets F.slot_list_insert ⟨_, ho, rfl⟩ F.entry_list_insert (F.args_list_insert_3 _ _ _) (AutoListH.list_insert_list_int_val_1 a its n x t r hfit (by rw [sizeLine_eq]; omega)) ⟨ho, σ.set i (a, .list _), S.update hi ho _ ?_, h⟩
  have hk2 : (if x < 0 then (x + ((its.size : Nat) : Int)).toNat else min x.toNat its.size) = x.toNat := by rw [if_neg (by omega)]; omega
  simp only [Obj.mapSeq, hk2]
  refine ⟨_, _, rfl, ?_⟩
  rw [← e, ← hc]
  have hm : min x.toNat its.size = x.toNat := by omega
  simp only [Array.toList_append, Array.toList_push, Array.toList_extract, List.map_append, List.map_take, List.map_drop, List.extract_eq_take_drop, List.drop_zero, Nat.sub_zero, List.map_cons, List.map_nil, List.append_assoc, List.cons_append, List.nil_append]
  rw [List.take_of_length_le (i := its.size - x.toNat) (by simp)]
end
end Mine
namespace Mine
open PySem PySem.W PySem.Calls PyProof.Rows
theorem kind_of {env : Env} {sc : Scope} {x : Str} {kd : Option NameKind} (he : env.scope = sc) (h : sc.names.lookup x = kd) : env.kindOf x = kd := by unfold Env.kindOf; rw [he]; exact h
theorem isN {x : Value} {b : Bool} (hx : ∀ v, er v = x → plainIs v .none = true ∧ (v == .none) = b) : (∀ v, er v = x → plainIs v .none = true ∧ (v == .none) = b) := hx
end Mine
namespace Mine
open PySem PySem.W PySem.Calls PyProof.Rows
section
variable {g : Gh} {k : Nat} {env : Env} {wr : List Str} {m : FM} {σ : AH}
theorem W.globalR {x : Str} {pos : Pos} {a : Addr} {Q : Value → FM → AH → Prop} (hl : env.kindOf x = some .globalImplicit) (hv : nsIn g.K mainGlobals x = some (some (.ref a))) (h : Q (.ref a) m σ) (hd : (x == ("__debug__" : Str)) = false) :
    WV g k env wr (eval (.Name x pos) env) Q m σ := W.global hl hv h hd
noncomputable def IsBB (x : Str) (v : Value) : Prop := bootBuiltins x = some v ∧ er v = v ∧ x ≠ "__name__" ∧ (x == ("__debug__" : Str)) = false
theorem bb_len : IsBB "len" (.builtin "len") := ⟨by rfl, rfl, by decide, by rfl⟩
theorem bb_min : IsBB "min" (.builtin "min") := ⟨by rfl, rfl, by decide, by rfl⟩
theorem bb_max : IsBB "max" (.builtin "max") := ⟨by rfl, rfl, by decide, by rfl⟩
theorem bb_sum : IsBB "sum" (.builtin "sum") := ⟨by rfl, rfl, by decide, by rfl⟩
theorem bb_range : IsBB "range" (.type "range") := ⟨by rfl, rfl, by decide, by rfl⟩
theorem bb_str : IsBB "str" (.type "str") := ⟨by rfl, rfl, by decide, by rfl⟩
theorem bb_int : IsBB "int" (.type "int") := ⟨by rfl, rfl, by decide, by rfl⟩
theorem bb_list : IsBB "list" (.type "list") := ⟨by rfl, rfl, by decide, by rfl⟩
theorem bb_type : IsBB "type" (.type "type") := ⟨by rfl, rfl, by decide, by rfl⟩
theorem W.builtinB {x : Str} {pos : Pos} {v : Value} {Q : Value → FM → AH → Prop} (hb : IsBB x v) (hl : env.kindOf x = some .globalImplicit) (hm : nsIn g.K mainGlobals x = some none) (h : Q v m σ) :
    WV g k env wr (eval (.Name x pos) env) Q m σ := W.builtin hl hm hb.1 (by rw [hb.2.1]; exact h) hb.2.2.1 hb.2.2.2
end
end Mine
/- R6 -/
namespace Mine
open PySem PySem.W PySem.Calls PyProof.Rows
noncomputable def clOf (f : Str → Addr) : List (Str × NameKind) → List (Str × Addr) → List (Str × Addr)
  | [], cs => cs
  | (n, kd) :: r, cs => clOf f r (if kd == .free then (n, f n) :: cs else cs)
theorem clOf_look {f : Str → Addr} {x : Str} {c : Addr} : ∀ (names : List (Str × NameKind)) (cs : List (Str × Addr)), (clOf f names cs).lookup x = some c → ((x, NameKind.free) ∈ names ∧ c = f x) ∨ cs.lookup x = some c
  | [], cs, h => .inr h
  | (n, kd) :: r, cs, h => by
    unfold clOf at h
    rcases clOf_look r _ h with ⟨a, b⟩ | h2
    · exact .inl ⟨List.mem_cons_of_mem _ a, b⟩
    · clear h
      have h := h2
      clear h2
      split at h
      · rename_i hk
        have hk' : kd = .free := by cases kd <;> first | rfl | (exact absurd hk (by decide))
        subst hk'
        rw [List.lookup_cons] at h
        split at h
        · rename_i q
          cases h
          rw [beq_iff_eq.mp q]
          exact .inl ⟨List.mem_cons_self, rfl⟩
        · exact .inr h
      · exact .inr h
theorem clOf_has {f : Str → Addr} {x : Str} : ∀ (names : List (Str × NameKind)) (cs : List (Str × Addr)), ((x, NameKind.free) ∈ names ∨ cs.lookup x = some (f x)) → (clOf f names cs).lookup x = some (f x)
  | [], cs, h => by rcases h with h | h; cases h; exact h
  | (n, kd) :: r, cs, h => by
    unfold clOf
    refine clOf_has r _ ?_
    rcases h with h | h
    · rcases List.mem_cons.mp h with e | h
      · cases e
        refine .inr ?_
        rw [if_pos (by decide), List.lookup_cons]; simp
      · exact .inl h
    · refine .inr ?_
      split
      · rw [List.lookup_cons]
        split
        · rename_i q; rw [beq_iff_eq.mp q]
        · exact h
      · exact h
theorem closureFor_of {scope : Scope} {env : Env} {f : Str → Addr} (h : ∀ x, (x, NameKind.free) ∈ scope.names → env.cells.lookup x = some (f x)) : closureFor scope env = pure (clOf f scope.names []) := by
  have key : ∀ (names : List (Str × NameKind)) (cs : List (Str × Addr)), (∀ x, (x, NameKind.free) ∈ names → env.cells.lookup x = some (f x)) →
      (forIn names cs fun (x : Str × NameKind) (r : List (Str × Addr)) => (if x.2 == NameKind.free then do let a ← cellOf env x.1; Pure.pure (ForInStep.yield ((x.1, a) :: r)) else Pure.pure (ForInStep.yield r) : Sem (ForInStep (List (Str × Addr))))) = (Pure.pure (clOf f names cs) : Sem _) := by
    intro names
    induction names with
    | nil => intro cs _; rfl
    | cons y r ih =>
      intro cs hy
      obtain ⟨n, kd⟩ := y
      rw [List.forIn_cons]
      unfold clOf
      have hr := fun cs => ih cs fun x hx => hy x (List.mem_cons_of_mem _ hx)
      by_cases hk : (kd == NameKind.free) = true
      · have hk' : kd = .free := by cases kd <;> first | rfl | (exact absurd hk (by decide))
        subst hk'
        have hc : cellOf env n = Pure.pure (f n) := by unfold cellOf; rw [hy n List.mem_cons_self]
        simp only [hk, if_true, hc]
        exact hr _
      · simp only [hk, Bool.false_eq_true, if_false]
        exact hr _
  unfold closureFor
  have e : (forIn scope.names [] fun (x : Str × NameKind) (r : List (Str × Addr)) => (match x with
      | (name, kind) => if (kind == NameKind.free) = true then do
          let a ← cellOf env name
          Pure.pure (ForInStep.yield ((name, a) :: r))
        else Pure.pure (ForInStep.yield r) : Sem (ForInStep (List (Str × Addr))))) = (Pure.pure (clOf f scope.names []) : Sem _) := key scope.names [] h
  exact congrArg (fun t : Sem (List (Str × Addr)) => t >>= fun cs => Pure.pure cs) e
theorem cellsFrom_acc : ∀ (names : List (Str × NameKind)) (n : Nat) (acc : List (Str × Addr)), cellsFrom n names acc = cellsFrom n names [] ++ acc
  | [], n, acc => rfl
  | (y, kd) :: r, n, acc => by
    unfold cellsFrom
    split
    · rw [cellsFrom_acc r (n + 1) ((y, n) :: acc), cellsFrom_acc r (n + 1) [(y, n)], List.append_assoc]; rfl
    · exact cellsFrom_acc r n acc
theorem lookup_append {α : Type} {x : Str} : ∀ (l r : List (Str × α)), (l ++ r).lookup x = match l.lookup x with | some c => some c | none => r.lookup x
  | [], r => rfl
  | (y, c) :: l, r => by
    rw [List.cons_append, List.lookup_cons, List.lookup_cons]
    split
    · rfl
    · exact lookup_append l r
noncomputable def freeNames (sc : Scope) : List Str := sc.names.filterMap fun p => if p.2 == .free then some p.1 else none
theorem mem_freeNames {sc : Scope} {x : Str} : x ∈ freeNames sc ↔ (x, NameKind.free) ∈ sc.names := by
  unfold freeNames
  rw [List.mem_filterMap]
  constructor
  · rintro ⟨⟨y, kd⟩, hp, e⟩
    dsimp only at e
    split at e
    · rename_i q
      cases e
      have : kd = .free := by cases kd <;> first | rfl | (exact absurd q (by decide))
      exact this ▸ hp
    · cases e
  · intro h
    exact ⟨(x, .free), h, rfl⟩
/-- the scope of a comprehension, within a block of a known scope -/
noncomputable def compScope (sc scope : Scope) : Scope := { scope with names := scope.names.map fun (n, kd) => if (kd == .free && sc.kind == .function && sc.names.lookup n == some .cell) then (n, .cell) else (n, kd) }
theorem relabel_is {env : Env} {sc scope : Scope} (he : env.scope = sc) : relabel scope env = compScope sc scope := by
  unfold relabel compScope Env.kindOf; rw [he]
/-- the names that a comprehension keeps hold of: no locals of the block around it -/
noncomputable def capsOk (sc scope : Scope) (caps : List Str) : Bool :=
  (freeNames scope).all (fun x => caps.contains x && !(sc.names.lookup x == some .local)) && caps.all (fun x => (freeNames scope).contains x && !(cellNames scope).contains x && !((compScope sc scope).names.lookup x == some .local)) &&
  scope.names.all (fun p => !(p.2 == .local) || scope.names.lookup p.1 == some .local)
section
variable {α β : Type} {g : Gh} {k : Nat} {env : Env} {wr : List Str} {m : FM} {σ : AH}
theorem W.hideP {t : Sem α} {Q : α → FM → AH → Prop} {P : Addr → Prop} (h : W g k env wr t Q m σ) {A : Around} {B : Base} {s : Shared} (ok : OkA k A) (S : SS g B σ s) (F : FR B σ env wr m s.heap) (H : ∀ a, P a → Hid B σ env a) :
    wpAny (model g.prog g.w) A t (fun a s' => ∃ m' σ', SS g B σ' s' ∧ FR B σ' env wr m' s'.heap ∧ (∀ a o, P a → s.heap.get? a = some o → Hid B σ' env a ∧ s'.heap.get? a = some o) ∧ Q a m' σ') (fun _ _ => False) s := by
  have hN : ∀ a, ¬ P a → (B.and s.heap P) a = B a := fun a ha => by
    cases hb : B a with
    | some o' => exact Base.and_old hb
    | none => exact Base.and_none hb ha
  have hF : ∀ a, FrA env a → (B.and s.heap P) a = B a := fun a ha => hN a fun hp => (H a hp).fr ha
  refine wpAny_mono (h A (B.and s.heap P) s ok (S.and _ fun a ha e => (H a e).off ha) (F.keeps (fun _ _ _ e => e) hF fun a ha hb => F.off ha hb)) ?_ fun _ _ e => e
  rintro a s' ⟨m', σ', S', F', q⟩
  refine ⟨m', σ', S'.back S.ge, F'.keeps (fun _ _ _ e => e) (fun a ha => (hF a ha).symm) (fun a ha hb => F'.off ha hb), fun b o hb ho => ?_, q⟩
  have hit : (B.and s.heap P) b = some o := by rw [Base.and_new (H b hb).base hb]; exact ho
  refine ⟨⟨(H b hb).base, fun hm => ?_, (H b hb).fr⟩, S'.keep _ _ hit⟩
  obtain ⟨p, hp, rfl⟩ := List.mem_map.mp hm
  have := (S'.own p hp).1
  rw [hit] at this; cases this
/-- an item goes to the target -/
noncomputable def WG (g : Gh) (k : Nat) (env : Env) (wr : List Str) (target : Expr) (v : Value) (K : FM → AH → Prop) (m : FM) (σ : AH) : Prop := ∀ u, er u = v → W g k env wr (assign target env u) (fun _ m σ => K m σ) m σ
theorem WG.local {x : Str} {p : Pos} {v : Value} {K : FM → AH → Prop} (hl : env.kindOf x = some .local) (h : K ((x, v) :: m) σ) : WG g k env wr (.Name x p) v K m σ := by
  intro u hu A B s ok S F
  exact wpAny_assign_Name (W.storeLocal (Q := fun _ m σ => K m σ) hl (hu ▸ h) A B s ok S F)
theorem WG.cell {x : Str} {p : Pos} {v : Value} {K : FM → AH → Prop} (hl : env.kindOf x = some .cell) (hw : x ∈ wr) (h : K ((x, v) :: m) σ) : WG g k env wr (.Name x p) v K m σ := by
  intro u hu A B s ok S F
  exact wpAny_assign_Name (W.storeCell (Q := fun _ m σ => K m σ) hl hw (hu ▸ h) A B s ok S F)
/-- the tests of a comprehension -/
noncomputable def WTs (g : Gh) (k : Nat) (env : Env) (wr : List Str) : List Expr → (Bool → FM → AH → Prop) → FM → AH → Prop
  | [], Q, m, σ => Q true m σ
  | [c], Q, m, σ => WT g k env wr c Q m σ
  | _, _, _, _ => False
/-- the loop of a comprehension -/
theorem codeAny_compLoop_any {prog : Program} {w : World} {A : Around} {R : Result → Shared → Prop} {s : Shared} {elt target iter : Expr} {ifs : List Expr} {scope : Scope} {pos : Pos} {it acc : Value} {env : Env} (I : Nat → Shared → Prop)
    (turn : ∀ n s, I n s → wpAny (model prog w) A (pyNext it) (fun r s₁ => match r with
      | none => R (.ok .next) s₁
      | some v => wpAny (model prog w) A (letOwnedTupleGo target it v) (fun _ s₁' => wpAny (model prog w) A (assign target env v) (fun _ s₂ =>
          wpAny (model prog w) A (forIn ifs true fun c r => if r = true then do let ok ← isTrue c env (eval c env); Pure.pure (ForInStep.yield ok) else Pure.pure (ForInStep.yield r)) (fun ok s₃ =>
            if ok = true then wpAny (model prog w) A (eval elt env) (fun x s₄ =>
              wpAny (model prog w) A (call (.builtin "list.append") [acc, x]) (fun _ s₅ => ∃ m, m < n ∧ I m s₅) (fun _ _ => False) s₄) (fun _ _ => False) s₃
            else ∃ m, m < n ∧ I m s₃) (fun _ _ => False) s₂) (fun _ _ => False) s₁') (fun _ _ => False) s₁) (fun _ _ => False) s)
    (n : Nat) (h : I n s) : codeAny (model prog w) A (.compLoop (.ListComp elt [⟨target, iter, ifs, 0⟩] scope pos) 0 it acc env) R s := by
  refine codeAny_loop rfl I (fun n s hI => ?_) n h
  show wpAny _ A ((compTurn (.ListComp elt [⟨target, iter, ifs, 0⟩] scope pos) 0 it acc env).onRaise (fun x => do noteFrame x env; theTreesLotGoes x)) _ _ s
  refine wpAny_noted ?_
  rw [compTurn_list]
  refine wpAny_bind (wpAny_standAt (wpAny_bind (wpAny_mono (turn n s hI) (fun r s₁ h₁ => ?_) fun _ _ h' => h'.elim)))
  cases r with
  | none => exact wpAny_pure h₁
  | some v =>
    refine wpAny_bind (wpAny_mono h₁ (fun _ s₁' h₁' => ?_) fun _ _ h' => h'.elim)
    refine wpAny_bind (wpAny_mono h₁' (fun _ s₂ h₂ => wpAny_bind (wpAny_mono h₂ (fun ok s₃ h₃ => ?_) fun _ _ h' => h'.elim)) fun _ _ h' => h'.elim)
    cases ok with
    | false => exact wpAny_pure ⟨rfl, h₃⟩
    | true =>
      exact wpAny_bind (wpAny_bind (wpAny_mono h₃ (fun x s₄ h₄ => wpAny_bind (wpAny_mono h₄ (fun _ s₅ h₅ => wpAny_pure (wpAny_pure ⟨rfl, h₅⟩)) fun _ _ h' => h'.elim)) fun _ _ h' => h'.elim))
theorem WTs.run {ifs : List Expr} {Q : Bool → FM → AH → Prop} (h : WTs g k env wr ifs Q m σ) :
    W g k env wr (forIn ifs true fun c r => if r = true then do let ok ← isTrue c env (eval c env); Pure.pure (ForInStep.yield ok) else Pure.pure (ForInStep.yield r)) Q m σ := by
  match ifs, h with
  | [], h => exact fun A B s ok S F => wpAny_tests_nil ⟨m, σ, S, F, h⟩
  | [c], h => exact fun A B s ok S F => wpAny_tests_one (h A B s ok S F)
  | _ :: _ :: _, h => exact h.elim
theorem letOwned_plain {it : Addr} {vs : List Value} {dep : AH → Prop} {J : Nat → Obj → Prop} (N : Nexts g it vs dep J) {i : Nat} {o : Obj} (hJ : J i o) {A : Around} {s : Shared} {target : Expr} {v : Value} {Q : Unit → Shared → Prop} {E : Value → Shared → Prop}
    (ho : s.heap.get? it = some o) (h : Q () s) : wpAny (model g.prog g.w) A (letOwnedTupleGo target (.ref it) v) Q E s := by
  obtain ⟨n, fs, hc, hd, hp⟩ := N.plain i o hJ
  cases target
  case Tuple | List =>
    cases v
    case ref a =>
      refine wpAny_bind (wpAny_load ho ?_)
      rw [hc, hd]
      dsimp only
      rw [hp, Bool.false_and, if_neg (by decide)]
      exact wpAny_pure h
    all_goals exact wpAny_pure h
  all_goals exact wpAny_pure h
end
end Mine
/- R7 -/
namespace Mine
open PySem PySem.W PySem.Calls PyProof.Rows
theorem newCompEnv {M : Model} {A : Around} {E : Value → Shared → Prop} {s : Shared} {scope : Scope} {globals : Addr} {cl : List (Str × Addr)} {qual : Str} {env : Env} {Q : Env → Shared → Prop}
    (h : Q { scope, locals := s.heap.objs.size, globals, cells := cellsFrom (s.heap.objs.size + 1) scope.names cl, qual, func := none, code := env.code, frame := env.frame, builtins := env.builtins }
      { s with heap := pushCells (s.heap.push { cls := .type "dict", data := .dict #[] }) scope.names }) :
    wpAny M A (newFunctionEnv scope globals cl [] qual none .none (some env)) Q E s := by
  simp only [newFunctionEnv, Option.isSome_some, if_true]
  refine wpAny_bind (wpAny_alloc ?_)
  refine wpAny_bind (wpAny_layCells _ (fun name kind cells => by cases hkc : kind == NameKind.cell <;> simp [hkc]) _ _ _ _ ?_)
  rw [show ({ s with heap := s.heap.push { cls := .type "dict", data := .dict #[] } } : Shared).heap.objs.size = s.heap.objs.size + 1 from Heap.size_push ..]
  refine wpAny_bind ?_
  rw [List.forIn_nil]
  exact wpAny_pure (wpAny_pure h)
section
variable {α β : Type} {g : Gh} {k : Nat} {env : Env} {wr : List Str} {m : FM} {σ : AH}
theorem SS.cons {B : Base} {s : Shared} (S : SS g B σ s) {a : Addr} {ao : AO} {o : Obj} (hB : B a = none) (ha : a ∉ σ.map Prod.fst) (ho : s.heap.get? a = some o) (hi : ao.Is o) : SS g B ((a, ao) :: σ) s :=
  ⟨S.ok, S.ge, S.keep, List.nodup_cons.mpr ⟨ha, S.nd⟩, fun p hp => by
    rcases List.mem_cons.mp hp with rfl | hp
    · exact ⟨hB, o, ho, hi⟩
    · exact S.own p hp, S.os, S.gens, S.pos⟩
theorem comp_core {elt target iter : Expr} {ifs : List Expr} {scope : Scope} {pos : Pos} {sc : Scope} (he : env.scope = sc) {vs : List Value} {dep : AH → Prop} {I : Nat → List Value → AH → Prop} {M0 : FM}
    (hc : capsOk sc scope (M0.map Prod.fst) = true) (hk : scope.kind = .function) (hlen : vs.length ≤ 1000000)
    (hd : ∀ i ys σ, I i ys σ → dep σ)
    (turn : ∀ cenv, cenv.scope = compScope sc scope → ∀ i v ys σ, vs[i]? = some v → I i ys σ →
      WG g k cenv (cellNames scope) target v (fun m σ => WTs g k cenv (cellNames scope) ifs (fun b m σ => if b then WV g k cenv (cellNames scope) (eval elt cenv) (fun e m σ => I (i + 1) (ys ++ [e]) σ ∧ Le M0 m) m σ else I (i + 1) ys σ ∧ Le M0 m) m σ) M0 σ)
    {A : Around} {B : Base} {s : Shared} (ok : OkA k A) (S : SS g B σ s) (F : FR B σ env wr m s.heap) (hM : Le M0 m) (h0 : I 0 [] σ)
    {it : Addr} {o : Obj} {J : Nat → Obj → Prop} (N : Nexts g it vs dep J) (J0 : J 0 o) (ho : s.heap.get? it = some o) (H : Hid B σ env it)
    {f : Str → Addr} (hf : ∀ x, (x, NameKind.free) ∈ scope.names → env.cells.lookup x = some (f x))
    {RR : Value → Addr → Result → Shared → Prop}
    (hR : ∀ D C s' σ' ys m', I vs.length ys σ' → SS g B ((D, .list ys) :: σ') s' → FR B ((D, .list ys) :: σ') env wr m s'.heap → Hid B ((D, .list ys) :: σ') env C → s'.heap.Ns C m' → RR (.ref D) C (.ok .next) s') :
    wpAny (model g.prog g.w) A (newList []) (fun acc s₃ => wpAny (model g.prog g.w) A (newFunctionEnv scope env.globals (clOf f scope.names []) [] env.qual none .none (some env)) (fun cenv s₄ =>
      codeAny (model g.prog g.w) A (.compStart (.ListComp elt [⟨target, iter, ifs, 0⟩] scope pos) 0 (.ref it) acc { cenv with scope := relabel scope env }) (RR acc cenv.locals) s₄) (fun _ _ => False) s₃) (fun _ _ => False) s := by
  refine wpAny_newObj_type (newCompEnv ?_)
  dsimp only
  generalize hD : s.heap.objs.size = D
  generalize hH2 : s.heap.push { cls := .type "list", dict := none, data := .seq ([] : List Value).toArray } = H2
  have hC : H2.objs.size = D + 1 := by rw [← hH2, Heap.size_push, hD]
  generalize hCC : H2.objs.size = C at hC ⊢
  generalize hH3 : H2.push { cls := .type "dict", data := .dict #[] } = H3
  have hS3 : H3.objs.size = C + 1 := by rw [← hH3, Heap.size_push, hCC]
  generalize hH4 : pushCells H3 scope.names = H4
  have k2 : ∀ b o, s.heap.get? b = some o → H2.get? b = some o := fun b o e => hH2 ▸ Heap.get?_push_of_some _ e
  have k3 : ∀ b o, H2.get? b = some o → H3.get? b = some o := fun b o e => hH3 ▸ Heap.get?_push_of_some _ e
  have k4 : ∀ b o, H3.get? b = some o → H4.get? b = some o := fun b o e => hH4 ▸ pushCells_keeps _ _ _ _ e
  have kk : ∀ b o, s.heap.get? b = some o → H4.get? b = some o := fun b o e => k4 _ _ (k3 _ _ (k2 _ _ e))
  have hDo : H4.get? D = some { cls := .type "list", data := .seq ([] : List Value).toArray } := k4 _ _ (k3 _ _ (by rw [← hH2, ← hD]; exact Heap.get?_push_size _ rfl))
  have hCo : H4.Ns C (fun _ => none) := by
    have : H3.Ns C (fun _ => none) := by rw [← hH3, ← hCC]; exact Heap.Ns.new H2 (.type "dict")
    exact this.keeps k4
  have hok := cellsFrom_ok scope.names H3 (C + 1) [] ⟨fun _ _ hm => (nomatch hm), List.Pairwise.nil⟩ (by rw [hS3]; exact Nat.le_refl _)
  rw [hS3, hH4] at hok
  -- the new addresses are apart from all that was
  have old : ∀ a o, s.heap.get? a = some o → a < D := fun a o e => hD ▸ Heap.lt_size e
  have newB : ∀ a, D ≤ a → B a = none ∧ a ∉ σ.map Prod.fst ∧ ¬ FrA env a ∧ a ≠ it := fun a ha => by
    refine ⟨?_, ?_, ?_, ?_⟩
    · cases hb : B a with
      | none => rfl
      | some o' => exact absurd (old _ _ (S.keep _ _ hb)) (Nat.not_lt.mpr ha)
    · intro hm
      obtain ⟨p, hp, e⟩ := List.mem_map.mp hm
      obtain ⟨_, o', hp', _⟩ := S.own p hp
      rw [e] at hp'
      exact absurd (old _ _ hp') (Nat.not_lt.mpr ha)
    · intro hfr
      obtain ⟨o', ho'⟩ := F.live hfr
      exact absurd (old _ _ ho') (Nat.not_lt.mpr ha)
    · rintro rfl
      exact absurd (old _ _ ho) (Nat.not_lt.mpr ha)
  have hDC : D ≠ C := by rw [hC]; exact Nat.ne_of_lt (Nat.lt_succ_self _)
  have hDleC : D ≤ C := by rw [hC]; exact Nat.le_succ _
  have ownGe : ∀ x c, (x, c) ∈ cellsFrom (C + 1) scope.names [] → C < c := fun x c hm => (hok.empty x c hm).2
  have hcells : cellsFrom (C + 1) scope.names (clOf f scope.names []) = cellsFrom (C + 1) scope.names [] ++ clOf f scope.names [] := cellsFrom_acc ..
  have lookC : ∀ x c, (cellsFrom (C + 1) scope.names (clOf f scope.names [])).lookup x = some c → ((x, c) ∈ cellsFrom (C + 1) scope.names [] ∧ (x, NameKind.cell) ∈ scope.names) ∨ ((x, NameKind.free) ∈ scope.names ∧ c = f x) := by
    intro x c e
    rw [hcells, lookup_append] at e
    split at e
    · rename_i c' q
      cases e
      refine .inl ⟨mem_of_lookup q, ?_⟩
      rcases (cellsFrom_has scope.names (C + 1) [] x).mp ⟨_, q⟩ with ⟨_, q'⟩ | q'
      · cases q'
      · exact q'
    · rcases clOf_look _ _ e with q | q
      · exact .inr q
      · cases q
  unfold capsOk at hc
  simp only [Bool.and_eq_true, List.all_eq_true, Bool.not_eq_true', List.contains_eq_mem, decide_eq_true_eq, decide_eq_false_iff_not, beq_eq_false_iff_ne, ne_eq] at hc
  obtain ⟨⟨hc1, hc2⟩, hc3⟩ := hc
  have freeCap : ∀ x, (x, NameKind.free) ∈ scope.names → x ∈ M0.map Prod.fst ∧ (x, NameKind.cell) ∉ scope.names := fun x hx => by
    have h1 := hc1 x (mem_freeNames.mpr hx)
    exact ⟨h1.1, fun q => (hc2 x h1.1).1.2 (mem_cellNames.mpr q)⟩
  have S4 : SS g B σ { s with heap := H4 } := S.more kk
  have F4 : FR B σ env wr m H4 := F.more kk
  have hFA := FR.offA S4 F4
  generalize hB1 : B.and H4 (FrA env) = B1
  have S5 : SS g B1 σ { s with heap := H4 } := hB1 ▸ S4.and _ hFA
  have B1new : ∀ a, D ≤ a → B1 a = none := fun a ha => hB1 ▸ Base.and_none (newB a ha).1 (newB a ha).2.2.1
  have B1fr : ∀ a o, FrA env a → s.heap.get? a = some o → B1 a = some o := fun a o ha e => by
    rw [← hB1]
    cases hb : B a with
    | some o' =>
      have := S.keep _ _ hb
      rw [e] at this; cases this
      exact Base.and_old hb
    | none => exact (Base.and_new hb ha).trans (kk _ _ e)
  generalize hcenv : ({ scope := relabel scope env, locals := C, globals := env.globals, cells := cellsFrom (C + 1) scope.names (clOf f scope.names []), qual := env.qual, func := none, code := env.code, frame := env.frame, builtins := env.builtins } : Env) = cenv
  have hcs : cenv.scope = compScope sc scope := by rw [← hcenv]; exact relabel_is he
  have hcL : cenv.locals = C := by rw [← hcenv]
  have hcc : cenv.cells = cellsFrom (C + 1) scope.names (clOf f scope.names []) := by rw [← hcenv]
  have F5 : FR B1 σ cenv (cellNames scope) M0 H4 := by
    refine ⟨by rw [hcs]; exact hk, by rw [← hcenv]; exact F.glob, by rw [← hcenv]; exact F.blt, ⟨_, by rw [hcL]; exact hCo, fun x v e hl => ?_⟩, ?_, ?_, fun x v e hl => ?_, fun x c e => ?_, fun x y c e1 e2 => ?_, fun x hx => ?_⟩
    · have hx : x ∈ M0.map Prod.fst := List.mem_map.mpr ⟨(x, v), mem_of_lookup e, rfl⟩
      exact absurd ((kind_of hcs rfl).symm.trans hl) (hc2 x hx).2
    · rw [hcL]; exact B1new C hDleC
    · rw [hcL]; exact (newB C hDleC).2.1
    · have hx : x ∈ M0.map Prod.fst := List.mem_map.mpr ⟨(x, v), mem_of_lookup e, rfl⟩
      have hfr := mem_freeNames.mp (hc2 x hx).1.1
      have hnl : env.kindOf x ≠ some .local := fun q => (hc1 x (mem_freeNames.mpr hfr)).2 ((kind_of he rfl).symm.trans q)
      obtain ⟨c, u, hcl, hcu, hu⟩ := F4.cell x v (hM.look e) hnl
      rw [hf x hfr] at hcl
      cases hcl
      refine ⟨f x, u, ?_, hcu, hu⟩
      rw [hcc, hcells, lookup_append]
      split
      · rename_i c' q
        exfalso
        rcases (cellsFrom_has scope.names (C + 1) [] x).mp ⟨_, q⟩ with ⟨_, q'⟩ | q'
        · cases q'
        · exact (freeCap x hfr).2 q'
      · exact clOf_has _ _ (.inl hfr)
    · rw [hcc] at e
      rcases lookC x c e with ⟨hm, hx⟩ | ⟨hfr, rfl⟩
      · have hgt := ownGe x c hm
        refine ⟨by rw [hcL]; exact Nat.ne_of_gt hgt, ⟨_, (hok.empty x c hm).1⟩, ?_⟩
        rw [if_pos (mem_cellNames.mpr hx)]
        have hle : D ≤ c := Nat.le_trans hDleC (Nat.le_of_lt hgt)
        exact ⟨B1new c hle, (newB c hle).2.1⟩
      · have hFr : FrA env (f x) := .inr ⟨x, hf x hfr⟩
        obtain ⟨o', ho'⟩ := F.live hFr
        obtain ⟨_, hcell, _⟩ := F4.cells x (f x) (hf x hfr)
        refine ⟨by rw [hcL]; exact fun q => absurd (old _ _ ho') (Nat.not_lt.mpr (q ▸ hDleC)), hcell, ?_⟩
        rw [if_neg fun q => (freeCap x hfr).2 (mem_cellNames.mp q)]
        exact ⟨o', B1fr _ _ hFr ho'⟩
    · rw [hcc] at e1 e2
      have hlt : ∀ x, (x, NameKind.free) ∈ scope.names → f x < D := fun x hx => let ⟨o', ho'⟩ := F.live (.inr ⟨x, hf x hx⟩); old _ _ ho'
      rcases lookC x c e1 with ⟨h1, _⟩ | ⟨h1, q1⟩ <;> rcases lookC y c e2 with ⟨h2, _⟩ | ⟨h2, q2⟩
      · exact name_of_addr hok.apart h1 h2
      · exact absurd (Nat.lt_of_le_of_lt hDleC (ownGe _ _ h1)) (Nat.not_lt.mpr (Nat.le_of_lt (q2 ▸ hlt y h2)))
      · exact absurd (Nat.lt_of_le_of_lt hDleC (ownGe _ _ h2)) (Nat.not_lt.mpr (Nat.le_of_lt (q1 ▸ hlt x h1)))
      · exact F.inj x y c (q1 ▸ hf x h1) (q2 ▸ hf y h2)
    · obtain ⟨c, hc'⟩ := (cellsFrom_has scope.names (C + 1) (clOf f scope.names []) x).mpr (.inr (mem_cellNames.mp hx))
      exact ⟨c, hcc ▸ hc'⟩
  have hFrNew : ∀ a, FrA cenv a → a ≠ it ∧ a ≠ D := by
    rintro a (rfl | ⟨x, e⟩)
    · rw [hcL]; exact ⟨(newB C hDleC).2.2.2, Ne.symm hDC⟩
    · rw [hcc] at e
      rcases lookC x a e with ⟨hm, _⟩ | ⟨hfr, rfl⟩
      · have hgt := ownGe x a hm
        exact ⟨(newB a (Nat.le_trans hDleC (Nat.le_of_lt hgt))).2.2.2, Nat.ne_of_gt (Nat.lt_of_le_of_lt hDleC hgt)⟩
      · have hFr : FrA env (f x) := .inr ⟨x, hf x hfr⟩
        obtain ⟨o', ho'⟩ := F.live hFr
        exact ⟨fun q => H.fr (q ▸ hFr), Nat.ne_of_lt (old _ _ ho')⟩
  have Hit : Hid B1 σ cenv it := ⟨hB1 ▸ Base.and_none H.base H.fr, H.off, fun q => (hFrNew it q).1 rfl⟩
  have HD : Hid B1 σ cenv D := ⟨B1new D (Nat.le_refl _), (newB D (Nat.le_refl _)).2.1, fun q => (hFrNew D q).2 rfl⟩
  have hitD : it ≠ D := fun q => (newB D (Nat.le_refl _)).2.2.2 q.symm
  clear hH2 hH3 hH4
  have loop : codeAny (model g.prog g.w) A (.compLoop (.ListComp elt [⟨target, iter, ifs, 0⟩] scope pos) 0 (.ref it) (.ref D) cenv) (RR (.ref D) C) { s with heap := H4 } := by
    refine codeAny_compLoop_any (fun n s => ∃ σ' ys i o lo, SS g B1 σ' s ∧ FR B1 σ' cenv (cellNames scope) M0 s.heap ∧ Hid B1 σ' cenv it ∧ Hid B1 σ' cenv D ∧ s.heap.get? it = some o ∧ J i o ∧ s.heap.get? D = some lo ∧ (AO.list ys).Is lo ∧
      I i ys σ' ∧ i ≤ vs.length ∧ ys.length ≤ i ∧ n = vs.length - i) ?_ vs.length ⟨σ, [], 0, o, _, S5, F5, Hit, HD, kk _ _ ho, J0, hDo, ⟨_, _, rfl, rfl⟩, h0, Nat.zero_le _, Nat.le_refl _, rfl⟩
    rintro n s1 ⟨σ1, ys, i, o1, lo, S1, F1, Hi1, HD1, ho1, Ji, hlo, hli, hI, hle, hyl, rfl⟩
    cases hv : vs[i]? with
    | none =>
      have hlen' : i = vs.length := by have := List.getElem?_eq_none_iff.mp hv; omega
      subst hlen'
      refine wpAny_gain S1.pos (N.done ok.handled S1 (hd _ _ _ hI) ho1 Ji hv fun h' tk hx hp => ?_)
      have S2 := (S1.ext hx Hi1.base Hi1.off).tok tk
      have F2 := F1.ext Hi1 hx
      have hlo2 : h'.get? D = some lo := hx _ _ (Ne.symm hitD) hlo
      have S3 : SS g B σ1 { s1 with heap := h', toks := tk } := (hB1 ▸ S2).back S.ge
      have hBD : B D = none := (newB D (Nat.le_refl _)).1
      obtain ⟨ml, hml, _⟩ := F2.loc
      rw [hcL] at hml
      refine hR D C _ σ1 ys ml hI (S3.cons hBD HD1.off hlo2 hli) ?_ ?_ hml
      · refine F.keeps (fun a ha o' e => S2.keep _ _ (B1fr _ _ ha e)) (fun _ _ => rfl) fun a ha hb hm => ?_
        obtain ⟨o', ho'⟩ := F.live ha
        rcases List.mem_cons.mp hm with q | q
        · have q' : a = D := q
          exact absurd (old _ _ ho') (by rw [q']; exact Nat.lt_irrefl _)
        · obtain ⟨p, hp, e⟩ := List.mem_map.mp q
          have h1 := (S2.own p hp).1
          rw [e, B1fr _ _ ha ho'] at h1; cases h1
      · refine ⟨(newB C hDleC).1, fun hm => ?_, (newB C hDleC).2.2.1⟩
        rcases List.mem_cons.mp hm with q | q
        · have q' : C = D := q
          exact hDC q'.symm
        · exact F2.offL (by rw [hcL]; exact q)
    | some v =>
      have hlt : i < vs.length := (List.getElem?_eq_some_iff.mp hv).1
      refine wpAny_gain S1.pos (N.item ok.handled S1 (hd _ _ _ hI) ho1 Ji hv fun u h' tk o2 hu ho2 Jo hx hp => ?_)
      have S2 := (S1.ext hx Hi1.base Hi1.off).tok tk
      have F2 := F1.ext Hi1 hx
      have hlo2 : h'.get? D = some lo := hx _ _ (Ne.symm hitD) hlo
      refine letOwned_plain N Jo ho2 ?_
      have T := turn cenv hcs i v ys σ1 hv hI u hu
      refine wpAny_mono (W.hideP (P := fun a => a = it ∨ a = D) T ok S2 F2 (fun a ha => ha.elim (fun e => e ▸ Hi1) fun e => e ▸ HD1)) ?_ fun _ _ e => e
      rintro _ s3 ⟨m3, σ3, S3, F3, P3, T3⟩
      obtain ⟨Hi3, ho3⟩ := P3 it _ (.inl rfl) ho2
      obtain ⟨HD3, hlo3⟩ := P3 D _ (.inr rfl) hlo2
      refine wpAny_mono (W.hideP (P := fun a => a = it ∨ a = D) (WTs.run T3) ok S3 F3 (fun a ha => ha.elim (fun e => e ▸ Hi3) fun e => e ▸ HD3)) ?_ fun _ _ e => e
      rintro b s4 ⟨m4, σ4, S4, F4, P4, T4⟩
      obtain ⟨Hi4, ho4⟩ := P4 it _ (.inl rfl) ho3
      obtain ⟨HD4, hlo4⟩ := P4 D _ (.inr rfl) hlo3
      cases b with
      | false =>
        obtain ⟨T5, L5⟩ := T4
        exact ⟨_, by omega, σ4, ys, i + 1, o2, lo, S4, F4.less fun x v e => L5.look e, Hi4, HD4, ho4, Jo, hlo4, hli, T5, hlt, by omega, rfl⟩
      | true =>
        refine wpAny_mono (W.hideP (P := fun a => a = it ∨ a = D) T4 ok S4 F4 (fun a ha => ha.elim (fun e => e ▸ Hi4) fun e => e ▸ HD4)) ?_ fun _ _ e => e
        rintro e s5 ⟨m5, σ5, S5', F5', P5, T5, L5⟩
        obtain ⟨Hi5, ho5⟩ := P5 it _ (.inl rfl) ho4
        obtain ⟨HD5, hlo5⟩ := P5 D _ (.inr rfl) hlo4
        obtain ⟨its, nn, hlo6, hys⟩ := hli
        rw [hlo6] at hlo5
        have hsz : its.size = ys.length := by rw [← hys]; simp
        refine wpAny_list_append_plain (items := its) ⟨nn, hlo5⟩ (fun h6 hp6 hs6 => ?_) (by rw [sizeLine_eq]; omega)
        obtain ⟨n6, hp6⟩ := hp6
        exact ⟨_, by omega, σ5, ys ++ [er e], i + 1, o2, _, S5'.ext hs6.extBut HD5.base HD5.off, (F5'.ext HD5 hs6.extBut).less fun x v e => L5.look e, Hi5, HD5, hs6.extBut _ _ hitD ho5, Jo, hp6,
          ⟨_, _, rfl, by simp [hys]⟩, T5, hlt, by simp; omega, rfl⟩
  refine codeAny_compStart_list loop (N.self (kk _ _ ho) J0 loop)
theorem caps_free {sc scope : Scope} {caps : List Str} (hc : capsOk sc scope caps = true) {x : Str} (hx : (x, NameKind.free) ∈ scope.names) : x ∈ caps ∧ sc.names.lookup x ≠ some .local := by
  unfold capsOk at hc
  simp only [Bool.and_eq_true, List.all_eq_true, Bool.not_eq_true', List.contains_eq_mem, decide_eq_true_eq, decide_eq_false_iff_not, beq_eq_false_iff_ne, ne_eq] at hc
  exact hc.1.1 x (mem_freeNames.mpr hx)
theorem caps_names {sc scope : Scope} {caps : List Str} (hc : capsOk sc scope caps = true) : ∀ x ∈ scope.names, x.2 = .local → scope.names.lookup x.1 = some .local := by
  unfold capsOk at hc
  simp only [Bool.and_eq_true, List.all_eq_true] at hc
  intro x hx hl
  have := hc.2 x hx
  rw [hl] at this
  simpa using this
theorem cells_of_caps {B : Base} {h : Heap} {sc scope : Scope} (he : env.scope = sc) {M0 : FM} (hc : capsOk sc scope (M0.map Prod.fst) = true) (F : FR B σ env wr m h) (hM : Le M0 m) :
    ∀ x, (x, NameKind.free) ∈ scope.names → env.cells.lookup x = some ((env.cells.lookup x).getD 0) := by
  intro x hx
  obtain ⟨h1, h2⟩ := caps_free hc hx
  obtain ⟨p, hp, rfl⟩ := List.mem_map.mp h1
  obtain ⟨c, u, hcl, _⟩ := F.cell p.1 p.2 (hM p hp) (fun q => h2 ((kind_of he rfl).symm.trans q))
  rw [hcl]; rfl
theorem W.listComp {elt target iter : Expr} {ifs : List Expr} {scope : Scope} {pos : Pos} {Q : Value → FM → AH → Prop} {sc : Scope} (he : env.scope = sc) (vs : List Value) (dep : Value → AH → Prop) (I : Value → Nat → List Value → AH → Prop) (M0 : FM)
    (hc : capsOk sc scope (M0.map Prod.fst) = true) (hk : scope.kind = .function) (hlen : vs.length ≤ 1000000) (hM : Le M0 m)
    (h : WV g k env wr (eval iter env) (fun xv m1 σ1 => Iterable g xv vs (dep xv) σ1 ∧ I xv 0 [] σ1 ∧ Le M0 m1 ∧ ∀ ys σ' D, I xv vs.length ys σ' → Q (.ref D) m1 ((D, .list ys) :: σ')) m σ)
    (hd : ∀ xv i ys σ, I xv i ys σ → dep xv σ)
    (turn : ∀ xv cenv, cenv.scope = compScope sc scope → ∀ i v ys σ, vs[i]? = some v → I xv i ys σ →
      WG g k cenv (cellNames scope) target v (fun m σ => WTs g k cenv (cellNames scope) ifs (fun b m σ => if b then WV g k cenv (cellNames scope) (eval elt cenv) (fun e m σ => I xv (i + 1) (ys ++ [e]) σ ∧ Le M0 m) m σ else I xv (i + 1) ys σ ∧ Le M0 m) m σ) M0 σ)
    (hs : ∀ x, foldedSetIterable iter env x = Pure.pure x) : WV g k env wr (eval (.ListComp elt [⟨target, iter, ifs, 0⟩] scope pos) env) Q m σ := by
  intro A B s ok S F
  rw [eval_ListComp]
  refine wpAny_comprehension_free (use := none) rfl hs (closureFor_of (cells_of_caps he hc F hM)) hk (caps_names hc) (wpAny_mono (h A B s ok S F) ?_ fun _ _ e => e)
  rintro u s1 ⟨m1, σ1, S1, F1, hI, h0, hM1, hQ⟩
  refine hI A B s1 u _ _ ok.handled S1 rfl fun it o J N J0 hit => ?_
  subst hit
  refine comp_core (dep := dep (er u)) (I := I (er u)) he hc hk hlen (hd _) (turn _) ok (S1.pushed o) (F1.more fun b o' e => Heap.get?_push_of_some _ e) hM1 h0 N J0 (Heap.get?_push_size _ (N.live _ _ J0)) (Hid.new S1 F1) (cells_of_caps he hc F hM) ?_
  intro D C s' σ' ys m' hI' S' F' HC hn
  exact ⟨m', hn, fun h' hs' => ⟨m1, _, S'.ext hs'.extBut HC.base HC.off, F'.ext HC hs'.extBut, hQ ys σ' D hI'⟩⟩
theorem swaps_comp {elt : Expr} {gens : List Comprehension} {scope sc : Scope} {pos tp : Pos} {t : Str} {line : Nat} (he : env.scope = sc) : swapsWith (.ListComp elt gens scope pos) (some (.Name t tp)) line env =
    Pure.pure ((if sc.kind.isAnnotationScope then ScopeKind.function else sc.kind) == .function && sc.names.lookup t == some .local && tp.line == pos.line && !(scope.names.any fun (n, kd) => n == t && (kd == .local || kd == .cell))) := by
  subst he; rfl
theorem swaps_cell {value : Expr} {x : Str} {p : Pos} {line : Nat} (hl : env.kindOf x = some .cell) : swapsWith value (some (.Name x p)) line env = Pure.pure false := by
  have e : (NameKind.cell == NameKind.local) = false := by decide
  unfold swapsWith
  split <;> simp [hl, e] <;> rfl
theorem WX.assignC' {x : Str} {pos' pos : Pos} {value : Expr} {rest : List Stmt} {Q : Flow → FM → AH → Prop} (hl : env.kindOf x = some .cell) (hw : x ∈ wr)
    (h : WV g k env wr (eval value env) (fun v m σ => WX g k env wr rest Q ((x, v) :: m) σ) m σ) : WX g k env wr (.Assign [.Name x pos'] value pos :: rest) Q m σ := WX.assignC hl hw h (swaps_cell hl)
theorem WX.assignComp {x : Str} {px spos : Pos} {elt target iter : Expr} {ifs : List Expr} {scope : Scope} {pos : Pos} {rest : List Stmt} {Q : Flow → FM → AH → Prop} {sc : Scope} (he : env.scope = sc) (vs : List Value) (dep : Value → AH → Prop) (I : Value → Nat → List Value → AH → Prop) (M0 : FM)
    (hl : env.kindOf x = some .local)
    (hsw : ((if sc.kind.isAnnotationScope then ScopeKind.function else sc.kind) == .function && sc.names.lookup x == some .local && px.line == pos.line && !(scope.names.any fun (n, kd) => n == x && (kd == .local || kd == .cell))) = true)
    (hc : capsOk sc scope (M0.map Prod.fst) = true) (hk : scope.kind = .function) (hlen : vs.length ≤ 1000000) (hM : Le M0 m)
    (h : WV g k env wr (eval iter env) (fun xv m1 σ1 => Iterable g xv vs (dep xv) σ1 ∧ I xv 0 [] σ1 ∧ Le M0 m1 ∧ ∀ ys σ' D, I xv vs.length ys σ' → WX g k env wr rest Q ((x, .ref D) :: m1) ((D, .list ys) :: σ')) m σ)
    (hd : ∀ xv i ys σ, I xv i ys σ → dep xv σ)
    (turn : ∀ xv cenv, cenv.scope = compScope sc scope → ∀ i v ys σ, vs[i]? = some v → I xv i ys σ →
      WG g k cenv (cellNames scope) target v (fun m σ => WTs g k cenv (cellNames scope) ifs (fun b m σ => if b then WV g k cenv (cellNames scope) (eval elt cenv) (fun e m σ => I xv (i + 1) (ys ++ [e]) σ ∧ Le M0 m) m σ else I xv (i + 1) ys σ ∧ Le M0 m) m σ) M0 σ)
    (hs : ∀ x, foldedSetIterable iter env x = Pure.pure x) : WX g k env wr (.Assign [.Name x px] (.ListComp elt [⟨target, iter, ifs, 0⟩] scope pos) spos :: rest) Q m σ := by
  refine WX.cons ?_
  intro A B s ok S F
  rw [exec_Assign_Name_used _ _ _ _ ((swaps_comp he).trans (by rw [hsw]))]
  refine wpAny_bind (wpAny_standAt (wpAny_bind ?_))
  show wpAny _ A (do let _ ← comprehension (.ListComp elt [⟨target, iter, ifs, 0⟩] scope pos) scope env _ (newList []) false (eval iter env) (some (PySem.assign (.Name x px) env))) _ _ s
  refine wpAny_bind (wpAny_mono (wpAny_comprehension_free (use := some (PySem.assign (.Name x px) env)) (Q := fun _ s' => ∃ m' σ', SS g B σ' s' ∧ FR B σ' env wr m' s'.heap ∧ WX g k env wr rest Q m' σ') rfl hs (closureFor_of (cells_of_caps he hc F hM)) hk (caps_names hc)
    (wpAny_mono (h A B s ok S F) ?_ fun _ _ e => e)) (fun _ s' hq => wpAny_pure (wpAny_pure hq)) fun _ _ e => e)
  rintro u s1 ⟨m1, σ1, S1, F1, hI, h0, hM1, hQ⟩
  refine hI A B s1 u _ _ ok.handled S1 rfl fun it o J N J0 hit => ?_
  subst hit
  refine comp_core (dep := dep (er u)) (I := I (er u)) he hc hk hlen (hd _) (turn _) ok (S1.pushed o) (F1.more fun b o' e => Heap.get?_push_of_some _ e) hM1 h0 N J0 (Heap.get?_push_size _ (N.live _ _ J0)) (Hid.new S1 F1) (cells_of_caps he hc F hM) ?_
  intro D C s' σ' ys m' hI' S' F' HC hn
  show wpAny _ A (PySem.assign (.Name x px) env (.ref D)) _ _ _
  refine wpAny_assign_Name ?_
  obtain ⟨oC, es, ep, hoC, r⟩ := hn
  refine wpAny_mono (W.hide (W.storeLocal (v := .ref D) (Q := fun _ m σ => WX g k env wr rest Q m σ) hl (hQ ys σ' D hI')) ok S' F' HC hoC) ?_ fun _ _ e => e
  rintro _ s2 ⟨m2, σ2, S2, F2, H2, ho2, q2⟩
  exact ⟨_, ⟨oC, es, ep, ho2, r⟩, fun h' hs' => ⟨m2, σ2, S2.ext hs'.extBut H2.base H2.off, F2.ext H2 hs'.extBut, q2⟩⟩
end
end Mine
/- R8 -/
namespace Mine
open PySem PySem.W PySem.Calls PyProof.Rows
theorem Rd.up {g : Gh} {σ σ' : AH} {a : Addr} {ao : AO} (hs : σ.Sublist σ') (h : Rd g σ a ao) : Rd g σ' a ao := h.imp (fun h => hs.subset h) id
/-- what may be walked over, with what it needs, which more knowledge does not take away -/
noncomputable def It (g : Gh) (x : Value) (vs : List Value) (dep : AH → Prop) (σ : AH) : Prop := Iterable g x vs dep σ ∧ ∀ σ0 σ1 : AH, σ0.Sublist σ1 → dep σ0 → dep σ1
section
variable {α β : Type} {g : Gh} {k : Nat} {env : Env} {wr : List Str} {m : FM} {σ : AH}
theorem It.list {a : Addr} {vs : List Value} (h : Rd g σ a (.list vs)) : It g (.ref a) vs (fun σ => Rd g σ a (.list vs)) σ := by
  refine ⟨?_, fun _ _ => Rd.up⟩
  intro A B s u Q E hA S hu hQ
  rw [er_ref hu]
  obtain ⟨its, hl, e⟩ := h.list S
  refine wpAny_pyIter_list hl ?_
  refine hQ _ _ (fun i o => o.cls = .type "list_iterator" ∧ o.data = .fields #[.ref a, .int i 0]) ?_ ⟨rfl, rfl⟩ rfl
  constructor
  · intro A B σ s i o v Q E hA S hd ho hj hv hQ
    obtain ⟨its, hl, e⟩ := hd.list S
    obtain ⟨u, hu, rfl⟩ := map_er_get e hv
    refine wpAny_pyNext_list_item (i := i) ⟨o, ho, hj.1, hj.2⟩ hl (by simpa using hu) fun h' hit' hs' => ?_
    obtain ⟨o', ho', hc', hd'⟩ := hit'
    exact hQ u h' s.toks o' rfl ho' ⟨hc', hd'⟩ hs'.extBut
  · intro A B σ s i o Q E hA S hd ho hj hv hQ
    obtain ⟨its, hl, e⟩ := hd.list S
    have : its[i]? = none := by
      rw [← e, List.getElem?_map] at hv
      simpa using hv
    exact wpAny_pyNext_list_end hA (i := i) ⟨o, ho, hj.1, hj.2⟩ hl (by simpa using this) fun h' hx => hQ h' s.toks hx
  · rintro i o ⟨_, hd⟩; exact Obj.isFreed_of_fields hd
  · intro A s i o Q E ho hj hQ
    exact wpAny_pyIter_listiter (i := i) ⟨o, ho, hj.1, hj.2⟩ hQ
  · rintro i o ⟨hc, hd⟩; exact ⟨_, _, hc, hd, by decide⟩
/-- the ints of a range -/
noncomputable def rangeVs (a b c : Int) : List Value := (List.range (Builtin.Range.rangeSize a b c).toNat).map fun (i : Nat) => .int (a + c * i) 0
noncomputable def rangeObj (a b c : Int) (o : Obj) : Prop := ∃ t u v, o = { cls := .type "range", dict := none, data := .fields #[.int a t, .int b u, .int c v], slots := #[] }
theorem It.range {r : Addr} {a b c : Int} {o : Obj} (h : (r, AO.is o) ∈ σ) (ho : rangeObj a b c o) (hs : Builtin.Range.small a b c = true) : It g (.ref r) (rangeVs a b c) (fun _ => True) σ := by
  refine ⟨?_, fun _ _ _ _ => trivial⟩
  intro A B s u Q E hA S hu hQ
  rw [er_ref hu]
  obtain ⟨o', ho', hi⟩ := S.get h
  obtain ⟨rfl, _⟩ := hi
  obtain ⟨t, u, v, rfl⟩ := ho
  refine wpAny_pyIter_range ho' hs ?_
  have hlen : (rangeVs a b c).length = (Builtin.Range.rangeSize a b c).toNat := by simp [rangeVs]
  refine hQ _ _ (fun i o => i ≤ (Builtin.Range.rangeSize a b c).toNat ∧ o = { cls := .type "range_iterator", dict := none, data := .fields #[rawInt (a + c * i), rawInt (Builtin.Range.rangeSize a b c - i), rawInt c], slots := #[] }) ?_ ⟨Nat.zero_le _, by simp⟩ rfl
  constructor
  · intro A B σ s i o v Q E hA S hd ho hj hv hQ
    obtain ⟨hle, rfl⟩ := hj
    have hlt : i < (Builtin.Range.rangeSize a b c).toNat := by
      have := (List.getElem?_eq_some_iff.mp hv).1
      omega
    have hv' : v = .int (a + c * i) 0 := by
      simp only [rangeVs, List.getElem?_map, List.getElem?_range hlt, Option.map_some, Option.some.injEq] at hv
      exact hv.symm
    subst hv'
    refine wpAny_pyNext_range_item ho (by omega) fun h' hit' hs' => ?_
    refine hQ (.int (a + c * i) s.toks) h' (s.toks + 1) _ rfl hit' ⟨hlt, ?_⟩ hs'.extBut
    have e1 : a + c * (i : Int) + c = a + c * ((i + 1 : Nat) : Int) := by rw [Int.natCast_add, Int.mul_add]; simp; omega
    have e2 : Builtin.Range.rangeSize a b c - (i : Int) - 1 = Builtin.Range.rangeSize a b c - ((i + 1 : Nat) : Int) := by omega
    rw [e1, e2]
  · intro A B σ s i o Q E hA S hd ho hj hv hQ
    obtain ⟨hle, rfl⟩ := hj
    have : ¬ i < (Builtin.Range.rangeSize a b c).toNat := fun q => by
      rw [List.getElem?_eq_none_iff] at hv; omega
    exact wpAny_pyNext_range_end hA ho (by omega) fun h' hx => hQ h' s.toks hx
  · rintro i o ⟨_, rfl⟩; rfl
  · rintro A s i o Q E ho ⟨_, rfl⟩ hQ
    exact wpAny_pyIter_rangeiter ho hQ
  · rintro i o ⟨_, rfl⟩; exact ⟨_, _, rfl, rfl, by decide⟩
/-- the one-sign strs of a str -/
noncomputable def signVs (x : Str) : List Value := x.cps.toList.map fun c => .str ⟨#[c]⟩ 0
theorem It.str {x : Str} : It g (.str x 0) (signVs x) (fun _ => True) σ := by
  refine ⟨?_, fun _ _ _ _ => trivial⟩
  intro A B s u Q E hA S hu hQ
  obtain ⟨t, rfl⟩ := er_str hu
  have hlen : (signVs x).length = x.cps.size := by simp [signVs]
  have get : ∀ (i : Nat) (v : Value), (signVs x)[i]? = some v → ∃ c, x.cps[i]? = some c ∧ v = .str ⟨#[c]⟩ 0 := fun i v hv => by
    simp only [signVs, List.getElem?_map, Option.map_eq_some_iff] at hv
    obtain ⟨c, hc, rfl⟩ := hv
    exact ⟨c, by simpa using hc, rfl⟩
  have non : ∀ i : Nat, (signVs x)[i]? = none → x.cps[i]? = none := fun i hv => by
    rw [List.getElem?_eq_none_iff, hlen] at hv
    simpa using hv
  cases ha : x.cps.all (· < 128)
  · refine wpAny_pyIter_wide ha ?_
    refine hQ _ _ (fun i o => o.cls = .type "str_iterator" ∧ o.data = .fields #[.str x t, .int i 0]) ?_ ⟨rfl, rfl⟩ rfl
    constructor
    · intro A B σ s i o v Q E hA S hd ho hj hv hQ
      obtain ⟨c, hc, rfl⟩ := get i v hv
      refine wpAny_pyNext_wide_item (i := i) (c := c) ⟨o, ho, hj.1, hj.2⟩ hc fun h' hit' hs' => ?_
      obtain ⟨o', ho', hc', hd'⟩ := hit'
      exact hQ _ h' _ o' rfl ho' ⟨hc', hd'⟩ hs'.extBut
    · intro A B σ s i o Q E hA S hd ho hj hv hQ
      exact wpAny_pyNext_wide_end hA (i := i) ⟨o, ho, hj.1, hj.2⟩ (non i hv) fun h' hx => hQ h' s.toks hx
    · rintro i o ⟨_, hd⟩; exact Obj.isFreed_of_fields hd
    · intro A s i o Q E ho hj hQ
      exact wpAny_pyIter_striter_wide (i := i) ⟨o, ho, hj.1, hj.2⟩ hQ
    · rintro i o ⟨hc, hd⟩; exact ⟨_, _, hc, hd, by decide⟩
  · refine wpAny_pyIter_ascii ha ?_
    refine hQ _ _ (fun i o => o.cls = .type "str_ascii_iterator" ∧ o.data = .fields #[.str x t, .int i 0]) ?_ ⟨rfl, rfl⟩ rfl
    constructor
    · intro A B σ s i o v Q E hA S hd ho hj hv hQ
      obtain ⟨c, hc, rfl⟩ := get i v hv
      refine wpAny_pyNext_ascii_item (i := i) (c := c) ⟨o, ho, hj.1, hj.2⟩ hc fun h' hit' hs' => ?_
      obtain ⟨o', ho', hc', hd'⟩ := hit'
      exact hQ _ h' _ o' rfl ho' ⟨hc', hd'⟩ hs'.extBut
    · intro A B σ s i o Q E hA S hd ho hj hv hQ
      exact wpAny_pyNext_ascii_end hA (i := i) ⟨o, ho, hj.1, hj.2⟩ (non i hv) fun h' hx => hQ h' s.toks hx
    · rintro i o ⟨_, hd⟩; exact Obj.isFreed_of_fields hd
    · intro A s i o Q E ho hj hQ
      exact wpAny_pyIter_striter_ascii (i := i) ⟨o, ho, hj.1, hj.2⟩ hQ
    · rintro i o ⟨hc, hd⟩; exact ⟨_, _, hc, hd, by decide⟩
/-- for: what is walked over may hold more than what the loop keeps -/
theorem WX.for {x : Str} {p pos : Pos} {iter : Expr} {body : List Stmt} {rest : List Stmt} {Q : Flow → FM → AH → Prop} (vs : List Value) (dep : Value → AH → Prop) (I : Value → Nat → FM → AH → Prop)
    (hst : ∀ (u : Value) (Q' : FM → AH → Prop) (m : FM) (σ : AH), Q' ((x, er u) :: m) σ → W g k env wr (storeName env x u) (fun _ m σ => Q' m σ) m σ)
    (h : WV g k env wr (eval iter env) (fun it m σ => It g it vs (dep it) σ ∧ ∃ σ0, σ0.Sublist σ ∧ I it 0 m σ0) m σ)
    (hd : ∀ it i m σ, I it i m σ → dep it σ)
    (turn : ∀ it i m σ v, vs[i]? = some v → I it i m σ → WX g k env wr body (fun f m σ => match f with
        | .next | .cont => I it (i + 1) m σ
        | .brk => WX g k env wr rest Q m σ
        | .ret v => Q (.ret v) m σ) ((x, v) :: m) σ)
    (fin : ∀ it m σ, I it vs.length m σ → WX g k env wr rest Q m σ)
    (hs : ∀ x, foldedSetIterable iter env x = pure x) : WX g k env wr (.For (.Name x p) iter body [] pos :: rest) Q m σ := by
  refine WX.forName vs dep (fun it i m σ => (∃ σ0, σ0.Sublist σ ∧ I it i m σ0) ∧ dep it σ) hst ?_ ?_ ?_ ?_ hs
  · exact W.mono h fun v m σ ⟨hI, σ0, hs0, h0⟩ => ⟨hI.1, ⟨σ0, hs0, h0⟩, hI.2 σ0 σ hs0 (hd _ _ _ _ h0)⟩
  · exact fun it i m σ h => h.2
  · rintro it i m σ v hv ⟨⟨σ0, hs0, h0⟩, _⟩
    refine WX.drop hs0 (WX.mono (turn it i m σ0 v hv h0) ?_)
    intro f m σ h
    cases f with
    | next => exact ⟨⟨σ, List.Sublist.refl _, h⟩, hd _ _ _ _ h⟩
    | cont => exact ⟨⟨σ, List.Sublist.refl _, h⟩, hd _ _ _ _ h⟩
    | brk => exact h
    | ret v => exact h
  · rintro it m σ ⟨⟨σ0, hs0, h0⟩, _⟩
    exact WX.drop hs0 (fin it m σ0 h0)
theorem stLocal {x : Str} (hl : env.kindOf x = some .local) : ∀ (u : Value) (Q' : FM → AH → Prop) (m : FM) (σ : AH), Q' ((x, er u) :: m) σ → W g k env wr (storeName env x u) (fun _ m σ => Q' m σ) m σ :=
  fun u Q' m σ h => W.storeLocal hl h
theorem stCell {x : Str} (hl : env.kindOf x = some .cell) (hw : x ∈ wr) : ∀ (u : Value) (Q' : FM → AH → Prop) (m : FM) (σ : AH), Q' ((x, er u) :: m) σ → W g k env wr (storeName env x u) (fun _ m σ => Q' m σ) m σ :=
  fun u Q' m σ h => W.storeCell hl hw h
theorem W.post {t : Sem α} {Q : α → FM → AH → Prop} (h : W g k env wr t (fun a m σ => ∃ σ0, σ0.Sublist σ ∧ Q a m σ0) m σ) : W g k env wr t Q m σ :=
  fun A B s ok S F => wpAny_mono (h A B s ok S F) (fun a s' ⟨m', σ', S', F', σ0, hs, q⟩ => ⟨m', σ0, S'.sub hs, F'.sub hs, q⟩) fun _ _ e => e
theorem WV.post {t : Sem Value} {Q : Value → FM → AH → Prop} (h : WV g k env wr t (fun a m σ => ∃ σ0, σ0.Sublist σ ∧ Q a m σ0) m σ) : WV g k env wr t Q m σ := W.post h
theorem C.post {t : Sem α} {Q : α → AH → Prop} (h : C g k t (fun a σ => ∃ σ0, σ0.Sublist σ ∧ Q a σ0) σ) : C g k t Q σ :=
  fun A B s ok S => wpAny_mono (h A B s ok S) (fun a s' ⟨σ', S', σ0, hs, q⟩ => ⟨σ0, S'.sub hs, q⟩) fun _ _ e => e
theorem CK.post {f : Value} {args : List Value} {kws : FM} {Q : Value → AH → Prop} (h : CK g k f args kws (fun a σ => ∃ σ0, σ0.Sublist σ ∧ Q a σ0) σ) : CK g k f args kws Q σ :=
  fun a b c d => C.post (h a b c d)
theorem CK.sub {f : Value} {args : List Value} {kws : FM} {σ' : AH} {Q : Value → AH → Prop} (h : CK g k f args kws Q σ') (hs : σ'.Sublist σ) : CK g k f args kws Q σ :=
  fun a b c d => C.sub (h a b c d) hs
theorem CK.mono {f : Value} {args : List Value} {kws : FM} {Q Q' : Value → AH → Prop} (h : CK g k f args kws Q σ) (q : ∀ v σ, Q v σ → Q' v σ) : CK g k f args kws Q' σ :=
  fun a b c d => C.mono (h a b c d) fun v σ => q (er v) σ
theorem CK.more {f : Value} {args : List Value} {kws : FM} {k' : Nat} {Q : Value → AH → Prop} (h : CK g k f args kws Q σ) (hk : k ≤ k') : CK g k' f args kws Q σ :=
  fun a b c d => C.more (h a b c d) hk
theorem WG.drop {target : Expr} {v : Value} {K : FM → AH → Prop} {σ' : AH} (hs : σ'.Sublist σ) (h : WG g k env wr target v K m σ') : WG g k env wr target v K m σ := fun u hu => W.drop (h u hu) hs
theorem WG.mono {target : Expr} {v : Value} {K K' : FM → AH → Prop} (h : WG g k env wr target v K m σ) (q : ∀ m σ, K m σ → K' m σ) : WG g k env wr target v K' m σ := fun u hu => W.mono (h u hu) fun _ => q
theorem WTs.mono {ifs : List Expr} {Q Q' : Bool → FM → AH → Prop} (h : WTs g k env wr ifs Q m σ) (q : ∀ b m σ, Q b m σ → Q' b m σ) : WTs g k env wr ifs Q' m σ := by
  match ifs, h with
  | [], h => exact q _ _ _ h
  | [c], h => exact W.mono (α := Bool) h q
  | _ :: _ :: _, h => exact h.elim
theorem turn_sub {elt target : Expr} {ifs : List Expr} {dep : AH → Prop} {I : Nat → List Value → AH → Prop} {M0 : FM} (hd : ∀ i ys σ, I i ys σ → dep σ) {i : Nat} {ys : List Value} {v : Value}
    (h : ∃ σ0, σ0.Sublist σ ∧ WG g k env wr target v (fun m σ => WTs g k env wr ifs (fun b m σ => if b then WV g k env wr (eval elt env) (fun e m σ => I (i + 1) (ys ++ [e]) σ ∧ Le M0 m) m σ else I (i + 1) ys σ ∧ Le M0 m) m σ) M0 σ0) :
    WG g k env wr target v (fun m σ => WTs g k env wr ifs (fun b m σ => if b then WV g k env wr (eval elt env) (fun e m σ => ((∃ σ0, σ0.Sublist σ ∧ I (i + 1) (ys ++ [e]) σ0) ∧ dep σ) ∧ Le M0 m) m σ else ((∃ σ0, σ0.Sublist σ ∧ I (i + 1) ys σ0) ∧ dep σ) ∧ Le M0 m) m σ) M0 σ := by
  obtain ⟨σ0, hs, h⟩ := h
  refine WG.drop hs (WG.mono h fun m σ h => WTs.mono h ?_)
  rintro b m σ h
  cases b with
  | true => exact W.mono (α := Value) h fun v m σ ⟨a, b⟩ => ⟨⟨⟨σ, List.Sublist.refl _, a⟩, hd _ _ _ a⟩, b⟩
  | false => exact ⟨⟨⟨σ, List.Sublist.refl _, h.1⟩, hd _ _ _ h.1⟩, h.2⟩
/-- a list comprehension, alike -/
theorem W.comp {elt target iter : Expr} {ifs : List Expr} {scope : Scope} {pos : Pos} {Q : Value → FM → AH → Prop} {sc : Scope} (he : env.scope = sc) (vs : List Value) (dep : Value → AH → Prop) (I : Value → Nat → List Value → AH → Prop) (M0 : FM)
    (hc : capsOk sc scope (M0.map Prod.fst) = true) (hk : scope.kind = .function) (hlen : vs.length ≤ 1000000) (hM : Le M0 m)
    (h : WV g k env wr (eval iter env) (fun xv m1 σ1 => It g xv vs (dep xv) σ1 ∧ (∃ σ0, σ0.Sublist σ1 ∧ I xv 0 [] σ0) ∧ Le M0 m1 ∧ ∀ ys σ' D, I xv vs.length ys σ' → Q (.ref D) m1 ((D, .list ys) :: σ')) m σ)
    (hd : ∀ xv i ys σ, I xv i ys σ → dep xv σ)
    (turn : ∀ xv cenv, cenv.scope = compScope sc scope → ∀ i v ys σ, vs[i]? = some v → I xv i ys σ →
      WG g k cenv (cellNames scope) target v (fun m σ => WTs g k cenv (cellNames scope) ifs (fun b m σ => if b then WV g k cenv (cellNames scope) (eval elt cenv) (fun e m σ => I xv (i + 1) (ys ++ [e]) σ ∧ Le M0 m) m σ else I xv (i + 1) ys σ ∧ Le M0 m) m σ) M0 σ)
    (hs : ∀ x, foldedSetIterable iter env x = Pure.pure x) : WV g k env wr (eval (.ListComp elt [⟨target, iter, ifs, 0⟩] scope pos) env) Q m σ := by
  refine WV.post (W.listComp he vs dep (fun xv i ys σ => (∃ σ0, σ0.Sublist σ ∧ I xv i ys σ0) ∧ dep xv σ) M0 hc hk hlen hM ?_ (fun xv i ys σ h => h.2) ?_ hs)
  · refine W.mono h fun v m σ ⟨hI, ⟨σ0, hs0, h0⟩, hM1, hQ⟩ => ⟨hI.1, ⟨⟨σ0, hs0, h0⟩, hI.2 _ _ hs0 (hd _ _ _ _ h0)⟩, hM1, ?_⟩
    rintro ys σ' D ⟨⟨σ1, hs1, h1⟩, _⟩
    exact ⟨_, hs1.cons_cons _, hQ ys σ1 D h1⟩
  · rintro xv cenv hce i v ys σ hv ⟨⟨σ0, hs0, h0⟩, _⟩
    exact turn_sub (hd xv) ⟨σ0, hs0, turn xv cenv hce i v ys σ0 hv h0⟩
theorem WX.asgComp {x : Str} {px spos : Pos} {elt target iter : Expr} {ifs : List Expr} {scope : Scope} {pos : Pos} {rest : List Stmt} {Q : Flow → FM → AH → Prop} {sc : Scope} (he : env.scope = sc) (vs : List Value) (dep : Value → AH → Prop) (I : Value → Nat → List Value → AH → Prop) (M0 : FM)
    (hl : env.kindOf x = some .local)
    (hsw : ((if sc.kind.isAnnotationScope then ScopeKind.function else sc.kind) == .function && sc.names.lookup x == some .local && px.line == pos.line && !(scope.names.any fun (n, kd) => n == x && (kd == .local || kd == .cell))) = true)
    (hc : capsOk sc scope (M0.map Prod.fst) = true) (hk : scope.kind = .function) (hlen : vs.length ≤ 1000000) (hM : Le M0 m)
    (h : WV g k env wr (eval iter env) (fun xv m1 σ1 => It g xv vs (dep xv) σ1 ∧ (∃ σ0, σ0.Sublist σ1 ∧ I xv 0 [] σ0) ∧ Le M0 m1 ∧ ∀ ys σ' D, I xv vs.length ys σ' → WX g k env wr rest Q ((x, .ref D) :: m1) ((D, .list ys) :: σ')) m σ)
    (hd : ∀ xv i ys σ, I xv i ys σ → dep xv σ)
    (turn : ∀ xv cenv, cenv.scope = compScope sc scope → ∀ i v ys σ, vs[i]? = some v → I xv i ys σ →
      WG g k cenv (cellNames scope) target v (fun m σ => WTs g k cenv (cellNames scope) ifs (fun b m σ => if b then WV g k cenv (cellNames scope) (eval elt cenv) (fun e m σ => I xv (i + 1) (ys ++ [e]) σ ∧ Le M0 m) m σ else I xv (i + 1) ys σ ∧ Le M0 m) m σ) M0 σ)
    (hs : ∀ x, foldedSetIterable iter env x = Pure.pure x) : WX g k env wr (.Assign [.Name x px] (.ListComp elt [⟨target, iter, ifs, 0⟩] scope pos) spos :: rest) Q m σ := by
  refine WX.assignComp he vs dep (fun xv i ys σ => (∃ σ0, σ0.Sublist σ ∧ I xv i ys σ0) ∧ dep xv σ) M0 hl hsw hc hk hlen hM ?_ (fun xv i ys σ h => h.2) ?_ hs
  · refine W.mono h fun v m σ ⟨hI, ⟨σ0, hs0, h0⟩, hM1, hQ⟩ => ⟨hI.1, ⟨⟨σ0, hs0, h0⟩, hI.2 _ _ hs0 (hd _ _ _ _ h0)⟩, hM1, ?_⟩
    rintro ys σ' D ⟨⟨σ1, hs1, h1⟩, _⟩
    exact WX.drop (hs1.cons_cons _) (hQ ys σ1 D h1)
  · rintro xv cenv hce i v ys σ hv ⟨⟨σ0, hs0, h0⟩, _⟩
    exact turn_sub (hd xv) ⟨σ0, hs0, turn xv cenv hce i v ys σ0 hv h0⟩
end
end Mine
/- P1 -/
namespace Mine
/-- split at one sign -/
noncomputable def splits (c : Nat) : List Nat → List (List Nat)
  | [] => [[]]
  | x :: r => if x = c then [] :: splits c r else match splits c r with | [] => [[x]] | p :: ps => (x :: p) :: ps
theorem splits_cons (c x : Nat) (r : List Nat) : splits c (x :: r) = if x = c then [] :: splits c r else match splits c r with | [] => [[x]] | p :: ps => (x :: p) :: ps := rfl
theorem splits_ne (c : Nat) : ∀ l, splits c l ≠ []
  | [] => by simp [splits]
  | x :: r => by
    unfold splits
    split
    · simp
    · split <;> simp
theorem splits_free {c : Nat} {p : List Nat} (h : c ∉ p) : splits c p = [p] := by
  induction p with
  | nil => rfl
  | cons x r ih =>
    have hx : x ≠ c := fun e => h (by simp [e])
    have hr : c ∉ r := fun e => h (by simp [e])
    unfold splits
    rw [if_neg hx, ih hr]
theorem splits_cat {c : Nat} {p : List Nat} (h : c ∉ p) (r : List Nat) : splits c (p ++ c :: r) = p :: splits c r := by
  induction p with
  | nil => show splits c (c :: r) = _; rw [splits_cons, if_pos rfl]
  | cons x q ih =>
    have hx : x ≠ c := fun e => h (by simp [e])
    have hq : c ∉ q := fun e => h (by simp [e])
    show splits c (x :: (q ++ c :: r)) = _
    rw [splits_cons, if_neg hx, ih hq]
/-- replace one sign -/
noncomputable def repl (c : Nat) (z : List Nat) (l : List Nat) : List Nat := l.flatMap fun x => if x = c then z else [x]
theorem intercalate_splits (c : Nat) (z : List Nat) : ∀ l : List Nat, List.intercalate z (splits c l) = repl c z l
  | [] => rfl
  | x :: r => by
    have ih := intercalate_splits c z r
    have hne := splits_ne c r
    unfold splits
    by_cases hx : x = c
    · rw [if_pos hx]
      cases hs : splits c r with
      | nil => exact absurd hs hne
      | cons p ps =>
        rw [hs] at ih
        have : List.intercalate z ([] :: p :: ps) = z ++ List.intercalate z (p :: ps) := by simp [List.intercalate]
        rw [this, ih]
        simp [repl, hx]
    · rw [if_neg hx]
      cases hs : splits c r with
      | nil => exact absurd hs hne
      | cons p ps =>
        rw [hs] at ih
        dsimp only
        have : List.intercalate z ((x :: p) :: ps) = x :: List.intercalate z (p :: ps) := by
          cases ps <;> simp [List.intercalate]
        rw [this, ih]
        simp [repl, hx]
theorem repl_not {c : Nat} {z l : List Nat} (h : c ∉ l) : repl c z l = l := by
  unfold repl
  induction l with
  | nil => rfl
  | cons x r ih =>
    have hx : x ≠ c := fun e => h (by simp [e])
    have hr : c ∉ r := fun e => h (by simp [e])
    rw [List.flatMap_cons, if_neg hx, ih hr]; rfl
theorem repl_len {c : Nat} {z : List Nat} (l : List Nat) : (repl c z l).length ≤ l.length * (z.length + 1) := by
  unfold repl
  induction l with
  | nil => simp
  | cons x r ih =>
    rw [List.flatMap_cons, List.length_append, List.length_cons, Nat.add_mul, Nat.one_mul]
    split
    · omega
    · simp only [List.length_cons, List.length_nil]; omega
noncomputable def escs : List (Nat × List Nat) → List Nat → List Nat
  | [], l => l
  | (c, z) :: r, l => escs r (repl c z l)
noncomputable def tab_cdata : List (Nat × List Nat) := [(38, [38, 97, 109, 112, 59]), (60, [38, 108, 116, 59]), (62, [38, 103, 116, 59])]
noncomputable def tab_attrib : List (Nat × List Nat) := [(38, [38, 97, 109, 112, 59]), (60, [38, 108, 116, 59]), (62, [38, 103, 116, 59]), (34, [38, 113, 117, 111, 116, 59]), (13, [38, 35, 49, 51, 59]), (10, [38, 35, 49, 48, 59]), (9, [38, 35, 48, 57, 59])]
noncomputable def tab_cdata_c14n : List (Nat × List Nat) := [(38, [38, 97, 109, 112, 59]), (60, [38, 108, 116, 59]), (62, [38, 103, 116, 59]), (13, [38, 35, 120, 68, 59])]
noncomputable def tab_attrib_c14n : List (Nat × List Nat) := [(38, [38, 97, 109, 112, 59]), (60, [38, 108, 116, 59]), (34, [38, 113, 117, 111, 116, 59]), (9, [38, 35, 120, 57, 59]), (10, [38, 35, 120, 65, 59]), (13, [38, 35, 120, 68, 59])]
/-- what a table tells of a sign -/
noncomputable def refOf (t : List (Nat × List Nat)) (c : Nat) : List Nat := match t.find? (fun q => decide (q.1 = c)) with | some q => q.2 | none => [c]
/-- how many are not above x -/
noncomputable def cntLe (xs : List Int) (x : Int) : Nat := (xs.filter fun y => decide (y ≤ x)).length
noncomputable def cntLt (xs : List Int) (x : Int) : Nat := (xs.filter fun y => decide (y < x)).length
theorem cntLe_of {xs : List Int} {x : Int} {l : Nat} (hl : l ≤ xs.length) (h1 : ∀ i (hi : i < xs.length), i < l → xs[i] ≤ x) (h2 : ∀ i (hi : i < xs.length), l ≤ i → x < xs[i]) : cntLe xs x = l := by
  unfold cntLe
  rw [← List.take_append_drop l xs, List.filter_append, List.length_append]
  have a : (xs.take l).filter (fun y => decide (y ≤ x)) = xs.take l := List.filter_eq_self.mpr fun y hy => by
    obtain ⟨i, hi, rfl⟩ := List.mem_iff_getElem.mp hy
    rw [List.length_take] at hi
    rw [List.getElem_take]
    exact decide_eq_true (h1 i (by omega) (by omega))
  have b : (xs.drop l).filter (fun y => decide (y ≤ x)) = [] := List.filter_eq_nil_iff.mpr fun y hy => by
    obtain ⟨i, hi, rfl⟩ := List.mem_iff_getElem.mp hy
    rw [List.length_drop] at hi
    rw [List.getElem_drop]
    have := h2 (l + i) (by omega) (by omega)
    simp only [decide_eq_true_eq]; omega
  rw [a, b, List.length_take]; simp; omega
theorem cntLt_of {xs : List Int} {x : Int} {l : Nat} (hl : l ≤ xs.length) (h1 : ∀ i (hi : i < xs.length), i < l → xs[i] < x) (h2 : ∀ i (hi : i < xs.length), l ≤ i → x ≤ xs[i]) : cntLt xs x = l := by
  unfold cntLt
  rw [← List.take_append_drop l xs, List.filter_append, List.length_append]
  have a : (xs.take l).filter (fun y => decide (y < x)) = xs.take l := List.filter_eq_self.mpr fun y hy => by
    obtain ⟨i, hi, rfl⟩ := List.mem_iff_getElem.mp hy
    rw [List.length_take] at hi
    rw [List.getElem_take]
    exact decide_eq_true (h1 i (by omega) (by omega))
  have b : (xs.drop l).filter (fun y => decide (y < x)) = [] := List.filter_eq_nil_iff.mpr fun y hy => by
    obtain ⟨i, hi, rfl⟩ := List.mem_iff_getElem.mp hy
    rw [List.length_drop] at hi
    rw [List.getElem_drop]
    have := h2 (l + i) (by omega) (by omega)
    simp only [decide_eq_true_eq]; omega
  rw [a, b, List.length_take]; simp; omega
noncomputable def ins (xs : List Int) (x : Int) : List Int := xs.take (cntLe xs x) ++ x :: xs.drop (cntLe xs x)
theorem cntLe_le (xs : List Int) (x : Int) : cntLe xs x ≤ xs.length := List.length_filter_le _ _
end Mine
/- R9 -/
namespace Mine
open PySem PySem.W PySem.Calls PyProof.Rows
section
variable {α β : Type} {g : Gh} {k : Nat} {env : Env} {wr : List Str} {m : FM} {σ : AH}
/- displays -/
theorem W.list {es : List Expr} {pos : Pos} {Q : Value → FM → AH → Prop} (h : WA g k env wr pos es (fun vs m σ => vs.length ≤ 100000 ∧ ∀ D, Q (.ref D) m ((D, .list vs) :: σ)) m σ) : WV g k env wr (eval (.List es pos) env) Q m σ := by
  intro A B s ok S F
  refine wpAny_List (wpAny_mono (h A B s ok S F) ?_ fun _ _ e => e)
  rintro vs s1 ⟨m1, σ1, S1, F1, hl, hq⟩
  rw [List.length_map] at hl
  exact ⟨by rw [sizeLine_eq]; omega, m1, _, S1.push (ao := .list (vs.map er)) ⟨_, _, rfl, by simp⟩, (F1.more fun b o e => Heap.get?_push_of_some _ e).keeps (fun _ _ _ e => e) (fun _ _ => rfl) (fun a ha hb hm => by
    rcases List.mem_cons.mp hm with q | q
    · have q' : a = s1.heap.objs.size := q
      obtain ⟨o, ho⟩ := F1.live ha
      exact absurd (Heap.lt_size ho) (by rw [q']; exact Nat.lt_irrefl _)
    · exact F1.off ha hb q), hq _⟩
theorem W.tuple {es : List Expr} {j : Nat} {pos : Pos} {Q : Value → FM → AH → Prop} (h : WA g k env wr pos es (fun vs m σ => vs.length ≤ 100000 ∧ ∀ D, Q (.ref D) m ((D, .tup vs) :: σ)) m σ) : WV g k env wr (eval (.Tuple es j pos) env) Q m σ := by
  intro A B s ok S F
  refine wpAny_Tuple (wpAny_mono (h A B s ok S F) ?_ fun _ _ e => e)
  rintro vs s1 ⟨m1, σ1, S1, F1, hl, hq⟩
  rw [List.length_map] at hl
  exact ⟨by rw [sizeLine_eq]; omega, m1, _, S1.push (ao := .tup (vs.map er)) ⟨_, _, rfl, by simp⟩, (F1.more fun b o e => Heap.get?_push_of_some _ e).keeps (fun _ _ _ e => e) (fun _ _ => rfl) (fun a ha hb hm => by
    rcases List.mem_cons.mp hm with q | q
    · have q' : a = s1.heap.objs.size := q
      obtain ⟨o, ho⟩ := F1.live ha
      exact absurd (Heap.lt_size ho) (by rw [q']; exact Nat.lt_irrefl _)
    · exact F1.off ha hb q), hq _⟩
/- a new object at the call level -/
theorem C.new {o : Obj} {ao : AO} {B : Base} {s : Shared} (S : SS g B σ s) (h : ao.Is o) {Q : Addr → AH → Prop} (q : ∀ D, Q D ((D, ao) :: σ)) : ∃ σ', SS g B σ' { s with heap := s.heap.push o } ∧ Q s.heap.objs.size σ' := ⟨_, S.push h, q _⟩
/- targets that are tuples of names -/
noncomputable def plainT : Expr → Bool | .Starred .. => false | _ => true
theorem assignEach_cons {t : Expr} {ts : List Expr} (h : plainT t = true) : assignEach (t :: ts) env = (false, PySem.assign t env) :: assignEach ts env := by
  cases t <;> first | rfl | (cases h)
noncomputable def WGs (g : Gh) (k : Nat) (env : Env) (wr : List Str) : List Expr → List Value → (FM → AH → Prop) → FM → AH → Prop
  | [], [], K, m, σ => K m σ
  | t :: ts, v :: vs, K, m, σ => WG g k env wr t v (fun m σ => WGs g k env wr ts vs K m σ) m σ
  | _, _, _, _, _ => False
theorem WGs.run {ts : List Expr} : ∀ {vs us : List Value} {K : FM → AH → Prop} {m : FM} {σ : AH}, WGs g k env wr ts vs K m σ → us.map er = vs → ts.all plainT = true →
    W g k env wr (assignInOrder ((assignEach ts env).map (·.2)) us) (fun _ m σ => K m σ) m σ := by
  induction ts with
  | nil =>
    intro vs us K m σ h hu _
    cases vs with
    | nil =>
      cases List.map_eq_nil_iff.mp hu
      exact fun A B s ok S F => wpAny_assignInOrder_none ⟨m, σ, S, F, h⟩
    | cons v vs => exact (show False from h).elim
  | cons t ts ih =>
    intro vs us K m σ h hu hp
    cases vs with
    | nil => exact (show False from h).elim
    | cons v vs =>
      obtain ⟨x, r, rfl, hx, hr⟩ := List.map_eq_cons_iff.mp hu
      rw [List.all_cons, Bool.and_eq_true] at hp
      rw [assignEach_cons hp.1, List.map_cons]
      intro A B s ok S F
      refine wpAny_assignInOrder_more (wpAny_mono (h x hx A B s ok S F) ?_ fun _ _ e => e)
      rintro _ s1 ⟨m1, σ1, S1, F1, h1⟩
      exact ih h1 hr hp.2 A B s1 ok S1 F1
theorem assignEach_length (ts : List Expr) : (assignEach ts env).length = ts.length := by
  induction ts with
  | nil => rfl
  | cons t ts ih => cases t <;> exact congrArg Nat.succ ih
theorem assignEach_plain : ∀ (ts : List Expr), ts.all plainT = true → (assignEach ts env).findIdx? (·.1) = none
  | [], _ => rfl
  | t :: ts, h => by
    rw [List.all_cons, Bool.and_eq_true] at h
    rw [assignEach_cons h.1, List.findIdx?_cons, assignEach_plain ts h.2]; rfl
theorem WG.tuple {ts : List Expr} {j : Nat} {pos : Pos} {a : Addr} {vs : List Value} {K : FM → AH → Prop} (hr : Rd g σ a (.tup vs)) (hl : ts.length = vs.length) (hp : ts.all plainT = true)
    (h : WGs g k env wr ts vs K m σ) : WG g k env wr (.Tuple ts j pos) (.ref a) K m σ := by
  intro u hu A B s ok S F
  rw [er_ref hu]
  obtain ⟨its, ht, e⟩ := hr.tup S
  have hlen : its.length = vs.length := by rw [← e, List.length_map]
  refine wpAny_assign_Tuple ok.handled ht (by rw [assignEach_length, hl, List.size_toArray, hlen]) (assignEach_plain ts hp) fun h' hx => ?_
  have H := Hid.new S F
  exact WGs.run h (by simpa using e) hp A B _ ok (S.ext hx H.base H.off) (F.ext H hx)
/- assignments -/
theorem WX.assignTup {ts : List Expr} {j : Nat} {tp pos : Pos} {value : Expr} {rest : List Stmt} {Q : Flow → FM → AH → Prop}
    (h : WV g k env wr (eval value env) (fun v m σ => WG g k env wr (.Tuple ts j tp) v (fun m σ => WX g k env wr rest Q m σ) m σ) m σ)
    (hs : swapsWithSole [.Tuple ts j tp] value pos.line env = Pure.pure false) (hw : swappedStores [.Tuple ts j tp] value env = Pure.pure none) :
    WX g k env wr (.Assign [.Tuple ts j tp] value pos :: rest) Q m σ := by
  refine WX.cons fun A B s ok S F => wpAny_Assign_stores (wpAny_mono (h A B s ok S F) ?_ fun _ _ e => e) hs hw
  rintro v s1 ⟨m1, σ1, S1, F1, h1⟩
  show wpAny _ _ (assignAll v [PySem.assign (.Tuple ts j tp) env]) _ _ _
  exact wpAny_mono (h1 v rfl A B s1 ok S1 F1) (fun _ s2 h => h) fun _ _ e => e
end
end Mine
/- R10 -/
namespace Mine
open PySem PySem.W PySem.Calls PyProof.Rows
section
variable {α β : Type} {g : Gh} {k : Nat} {env : Env} {wr : List Str} {m : FM} {σ : AH}
theorem W.ifExp {test body orelse : Expr} {pos : Pos} {Q : Value → FM → AH → Prop}
    (h : WT g k env wr test (fun b m σ => if b then WV g k env wr (eval body env) Q m σ else WV g k env wr (eval orelse env) Q m σ) m σ) : WV g k env wr (eval (.IfExp test body orelse pos) env) Q m σ := by
  intro A B s ok S F
  refine wpAny_IfExp (wpAny_mono (h A B s ok S F) ?_ fun _ _ e => e)
  rintro b s1 ⟨m1, σ1, S1, F1, h1⟩
  cases b <;> exact h1 A B s1 ok S1 F1
/- tests joined -/
noncomputable def WAll (g : Gh) (k : Nat) (env : Env) (wr : List Str) : List Expr → (Bool → FM → AH → Prop) → FM → AH → Prop
  | [], Q, m, σ => Q true m σ
  | e :: es, Q, m, σ => WT g k env wr e (fun b m σ => if b then WAll g k env wr es Q m σ else Q false m σ) m σ
noncomputable def WAny (g : Gh) (k : Nat) (env : Env) (wr : List Str) : List Expr → (Bool → FM → AH → Prop) → FM → AH → Prop
  | [], Q, m, σ => Q false m σ
  | e :: es, Q, m, σ => WT g k env wr e (fun b m σ => if b then Q true m σ else WAny g k env wr es Q m σ) m σ
theorem WAll.run {es : List Expr} {Q : Bool → FM → AH → Prop} : ∀ {m : FM} {σ : AH}, WAll g k env wr es Q m σ → W g k env wr (allTrue .And es env) Q m σ := by
  induction es with
  | nil => exact fun h A B s ok S F => wpAny_allTrue_And_nil ⟨_, _, S, F, h⟩
  | cons e es ih =>
    exact fun h A B s ok S F => wpAny_allTrue_And_cons (wpAny_mono (h A B s ok S F) (fun b s1 ⟨m1, σ1, S1, F1, h1⟩ => by
      cases b with
      | true => exact ih h1 A B s1 ok S1 F1
      | false => exact ⟨m1, σ1, S1, F1, h1⟩) fun _ _ e => e)
theorem WAny.run {es : List Expr} {Q : Bool → FM → AH → Prop} : ∀ {m : FM} {σ : AH}, WAny g k env wr es Q m σ → W g k env wr (allTrue .Or es env) Q m σ := by
  induction es with
  | nil => exact fun h A B s ok S F => wpAny_allTrue_Or_nil ⟨_, _, S, F, h⟩
  | cons e es ih =>
    exact fun h A B s ok S F => wpAny_allTrue_Or_cons (wpAny_mono (h A B s ok S F) (fun b s1 ⟨m1, σ1, S1, F1, h1⟩ => by
      cases b with
      | true => exact ⟨m1, σ1, S1, F1, h1⟩
      | false => exact ih h1 A B s1 ok S1 F1) fun _ _ e => e)
theorem WT.all {es : List Expr} {pos : Pos} {Q : Bool → FM → AH → Prop} (h : WAll g k env wr es Q m σ) : WT g k env wr (.BoolOp .And es pos) Q m σ :=
  fun A B s ok S F => wpAny_isTrue_BoolOp (WAll.run h A B s ok S F)
theorem WT.any {es : List Expr} {pos : Pos} {Q : Bool → FM → AH → Prop} (h : WAny g k env wr es Q m σ) : WT g k env wr (.BoolOp .Or es pos) Q m σ :=
  fun A B s ok S F => wpAny_isTrue_BoolOp (WAny.run h A B s ok S F)
theorem WT.not {e : Expr} {pos : Pos} {Q : Bool → FM → AH → Prop} (h : WT g k env wr e (fun b m σ => Q (!b) m σ) m σ) : WT g k env wr (.UnaryOp .Not e pos) Q m σ :=
  fun A B s ok S F => wpAny_isTrue_Not (h A B s ok S F)
/-- a < b < c -/
theorem WT.chain2 {l r1 r2 : Expr} {o1 o2 : CmpOp} {pos : Pos} {Q : Bool → FM → AH → Prop}
    (h : WV g k env wr (eval l env) (fun x m σ => WV g k env wr (eval r1 env) (fun y m σ => CO g k o1 x y (fun c σ => TR g k c (fun t σ =>
      if t then WV g k env wr (eval r2 env) (fun z m σ => CO g k o2 y z (fun c σ => TR g k c (fun t σ => Q t m σ) σ) σ) m σ else Q false m σ) σ) σ) m σ) m σ)
    (hm : lastMarks [o1, o2] [r1, r2] = false) : WT g k env wr (.Compare l [o1, o2] [r1, r2] pos) Q m σ := by
  intro A B s ok S F
  refine isTrue_chain (wpAny_mono (h A B s ok S F) ?_ fun _ _ e => e) hm
  rintro a s1 ⟨m1, σ1, S1, F1, h1⟩
  refine test_link (wpAny_mono (h1 A B s1 ok S1 F1) ?_ fun _ _ e => e)
  rintro b s2 ⟨m2, σ2, S2, F2, h2⟩
  refine wpAny_mono (W.of_C (env := env) (wr := wr) (m := m2) (Q := fun v m σ => m = m2 ∧ TR g k (er v) _ σ) ((h2 a b rfl rfl).mono fun _ _ h => ⟨rfl, h⟩) A B s2 ok S2 F2) ?_ fun _ _ e => e
  rintro c s3 ⟨m3, σ3, S3, F3, rfl, h3⟩
  refine wpAny_mono (W.of_C (env := env) (wr := wr) (m := m3) (Q := fun t m σ => m = m3 ∧ (if t then WV g k env wr (eval r2 env) (fun z m σ => CO g k o2 (er b) z (fun c σ => TR g k c (fun t σ => Q t m σ) σ) σ) m σ else Q false m σ)) ((h3 c rfl).mono fun _ _ h => ⟨rfl, h⟩) A B s3 ok S3 F3) ?_ fun _ _ e => e
  rintro t s4 ⟨m4, σ4, S4, F4, rfl, h4⟩
  cases t with
  | false => exact ⟨m4, σ4, S4, F4, h4⟩
  | true =>
    refine test_last (wpAny_mono (h4 A B s4 ok S4 F4) ?_ fun _ _ e => e)
    rintro z s5 ⟨m5, σ5, S5, F5, h5⟩
    refine wpAny_mono (W.of_C (env := env) (wr := wr) (m := m5) (Q := fun v m σ => m = m5 ∧ TR g k (er v) (fun t σ => Q t m5 σ) σ) ((h5 b z rfl rfl).mono fun _ _ h => ⟨rfl, h⟩) A B s5 ok S5 F5) ?_ fun _ _ e => e
    rintro c s6 ⟨m6, σ6, S6, F6, rfl, h6⟩
    exact W.of_C (h6 c rfl) A B s6 ok S6 F6
/- storing and deleting items -/
noncomputable def ST (g : Gh) (k : Nat) (o i v : Value) (Q : AH → Prop) (σ : AH) : Prop := ∀ a b c, er a = o → er b = i → er c = v → C g k (setItem a b c) (fun _ σ => Q σ) σ
theorem WX.setItem {o i value : Expr} {p pos : Pos} {rest : List Stmt} {Q : Flow → FM → AH → Prop}
    (h : WV g k env wr (eval value env) (fun v m σ => WV g k env wr (eval o env) (fun ov m σ => WV g k env wr (eval i env) (fun iv m σ => ST g k ov iv v (fun σ => WX g k env wr rest Q m σ) σ) m σ) m σ) m σ)
    (hs : swapsWith value (some (.Subscript o i p)) pos.line env = Pure.pure false) : WX g k env wr (.Assign [.Subscript o i p] value pos :: rest) Q m σ := by
  refine WX.cons fun A B s ok S F => wpAny_Assign_Subscript (wpAny_mono (h A B s ok S F) ?_ fun _ _ e => e) hs
  rintro v s1 ⟨m1, σ1, S1, F1, h1⟩
  refine wpAny_mono (h1 A B s1 ok S1 F1) ?_ fun _ _ e => e
  rintro ov s2 ⟨m2, σ2, S2, F2, h2⟩
  refine wpAny_mono (h2 A B s2 ok S2 F2) ?_ fun _ _ e => e
  rintro iv s3 ⟨m3, σ3, S3, F3, h3⟩
  exact wpAny_mono (W.of_C (env := env) (wr := wr) (m := m3) (Q := fun _ m σ => WX g k env wr rest Q m σ) (h3 ov iv v rfl rfl rfl) A B s3 ok S3 F3) (fun _ _ h => h) fun _ _ e => e
noncomputable def DL (g : Gh) (k : Nat) (o i : Value) (Q : AH → Prop) (σ : AH) : Prop := ∀ a b, er a = o → er b = i → C g k (delItem a b) (fun _ σ => Q σ) σ
theorem WX.delItem {o i : Expr} {p pos : Pos} {rest : List Stmt} {Q : Flow → FM → AH → Prop}
    (h : WV g k env wr (eval o env) (fun ov m σ => WV g k env wr (eval i env) (fun iv m σ => DL g k ov iv (fun σ => WX g k env wr rest Q m σ) σ) m σ) m σ) :
    WX g k env wr (.Delete [.Subscript o i p] pos :: rest) Q m σ := by
  refine WX.cons fun A B s ok S F => wpAny_Delete (wpAny_deleteEach_cons (wpAny_delete_Subscript (wpAny_mono (h A B s ok S F) ?_ fun _ _ e => e)))
  rintro ov s1 ⟨m1, σ1, S1, F1, h1⟩
  refine wpAny_mono (h1 A B s1 ok S1 F1) ?_ fun _ _ e => e
  rintro iv s2 ⟨m2, σ2, S2, F2, h2⟩
  exact wpAny_mono (W.of_C (env := env) (wr := wr) (m := m2) (Q := fun _ m σ => WX g k env wr rest Q m σ) (h2 ov iv rfl rfl) A B s2 ok S2 F2) (fun _ _ h => wpAny_deleteEach_nil h) fun _ _ e => e
theorem P.setItem_list {prog : Program} {w : World} {A : Around} {E : Value → Shared → Prop} {s : Shared} {l : Addr} {items : Array Value} {n : Nat} {k : Int} {t : Tok} {v : Value} {Q : Unit → Shared → Prop} (hl : IsL s.heap l items n)
    (h0 : 0 ≤ k) (hfit : k < 2 ^ 63) (hn : k < items.size) (hQ : Q () { s with heap := s.heap.update l (Obj.mapSeq (·.setIfInBounds k.toNat v)) }) :
    wpAny (model prog w) A (setItem (.ref l) (.int k t) v) Q E s := by
  have hT : s.TypeIs (.ref l) "list" := ⟨_, hl, rfl⟩
  unfold setItem
  try with_reducible refine wpAny_holding ?_
  first | refine wpAny_bind (wpAny_pure ?_) | skip
  refine wpAny_bind (wpAny_sequenceKey hT (by decide) ?_)
  refine wpAny_bind (wpAny_callSpecial?_slot (name := Str.ofString "__setitem__") hT slot_list_setitem
    (wpAny_call_entry slot_list_setitem hT entry_list_setitem ?_ (args_list_setitem _ _ _)))
  show wpAny _ _ (Builtin.List.listSubscript? (.int k t) >>= _) _ _ s
  refine wpAny_bind (wpAny_listSubscript_int (fitsIndex_of h0 hfit) ?_)
  clear hfit
  obtain ⟨j, rfl⟩ := Int.eq_ofNat_of_zero_le h0
  have hj : j < items.size := by omega
  have hx' : items[j]? = some items[j] := Array.getElem?_eq_getElem hj
  show wpAny _ _ ((seqItemAt l j >>= fun r => Pure.pure (r.map (j, ·))) >>= _) _ _ s
  refine wpAny_bind (wpAny_bind (wpAny_seqItemAt hl rfl (wpAny_pure ?_)))
  rw [hx']
  show wpAny _ _ (setSeqItemAt l j v >>= _) _ _ s
  refine wpAny_bind (wpAny_setSeqItemAt hl rfl ?_)
  first
    | exact wpAny_bind (wpAny_pure (wpAny_pure ⟨.none, rfl, wpAny_pure hQ⟩))
    | exact wpAny_pure ⟨.none, rfl, wpAny_pure hQ⟩
theorem ST.list {i : Nat} {a : Addr} {vs : List Value} {j : Nat} {v : Value} {Q : AH → Prop} (hi : σ[i]? = some (a, .list vs)) (hfit : (j : Int) < 2 ^ 63) (hj : j < vs.length)
    (h : Q (σ.set i (a, .list (vs.set j v)))) : ST g k (.ref a) (.int (j : Int) 0) v Q σ := by
  intro x y z hx hy hz A B s ok S
  rw [er_ref hx]
  obtain ⟨t, rfl⟩ := er_int hy
  obtain ⟨o, ho, its, n, rfl, e⟩ := S.get (List.mem_of_getElem? hi)
  have hlen : its.size = vs.length := by rw [← e]; simp
  refine P.setItem_list ho (Int.natCast_nonneg j) hfit (by omega) ⟨_, S.update hi ho _ ?_, h⟩
  refine ⟨_, _, rfl, ?_⟩
  rw [Array.toList_setIfInBounds, List.map_set, e, hz, Int.toNat_natCast]
theorem DL.list {i : Nat} {a : Addr} {vs : List Value} {x : Int} {j : Nat} {Q : AH → Prop} (hi : σ[i]? = some (a, .list vs)) (hx : seqIndex? x vs.length = some j) (hf : Builtin.List.listFitsIndex x = true) (hsz : vs.length ≤ 100000)
    (h : Q (σ.set i (a, .list (vs.eraseIdx j)))) : DL g k (.ref a) (.int x 0) Q σ := by
  intro p y hp hy A B s ok S
  rw [er_ref hp]
  obtain ⟨t, rfl⟩ := er_int hy
  obtain ⟨o, ho, its, n, rfl, e⟩ := S.get (List.mem_of_getElem? hi)
  have hlen : its.size = vs.length := by rw [← e]; simp
  refine P.delItem_list (n := n) ho hf (by rw [hlen]; exact hx) ⟨_, S.update hi ho _ ?_, h⟩ (by rw [sizeLine_eq]; omega)
  refine ⟨_, _, rfl, ?_⟩
  rw [← e]
  have : (its.eraseIdxIfInBounds j).toList = its.toList.eraseIdx j := by
    rw [Array.toList_eraseIdxIfInBounds]
  rw [this, List.eraseIdx_eq_take_drop_succ, List.eraseIdx_eq_take_drop_succ, List.map_append, List.map_take, List.map_drop]
/- slices -/
noncomputable def pickV {α : Type} (vs : List α) : Option Nat → Option Nat → List α
  | none, none => vs
  | some a, none => vs.drop a
  | none, some b => vs.take b
  | some a, some b => (vs.drop a).take (b - a)
noncomputable def partV : Option Nat → Value
  | none => .none
  | some a => .int (a : Int) 0
theorem slicePick_gen (items : Array Value) (lo hi : Option Nat) : slicePick items (lo.map (fun (n : Nat) => (n : Int))) (hi.map (fun (n : Nat) => (n : Int))) none = (pickV items.toList lo hi).toArray := by
  have key : ∀ a b : Nat, a ≤ items.size → b ≤ items.size → sliceBounds (lo.map (fun (n : Nat) => (n : Int))) (hi.map (fun (n : Nat) => (n : Int))) none items.size = ((a : Int), (b : Int), 1) →
      slicePick items (lo.map (fun (n : Nat) => (n : Int))) (hi.map (fun (n : Nat) => (n : Int))) none = ((items.toList.drop a).take (b - a)).toArray := by
    intro a b ha hb e
    unfold slicePick
    rw [e]
    simp only [sliceRange_one, pick_run]
  have hn : ∀ l : List Value, l.length = items.size → True := fun _ _ => trivial
  cases lo with
  | none =>
    cases hi with
    | none =>
      rw [key 0 items.size (Nat.zero_le _) (Nat.le_refl _) (by simp [sliceBounds])]
      simp only [pickV, Nat.sub_zero, List.drop_zero]
      rw [List.take_of_length_le (by simp)]
    | some b =>
      rw [key 0 (min b items.size) (Nat.zero_le _) (Nat.min_le_right _ _) (by
        have h2 : ¬ ((b : Int) < 0) := by omega
        simp only [Option.map_none, Option.map_some, sliceBounds, Option.getD_none, h2, if_false, show (1 : Int) > 0 by decide, if_true]
        congr 1; congr 1; omega)]
      simp only [pickV, List.drop_zero, Nat.sub_zero]
      congr 1
      rcases Nat.le_total b items.size with q | q
      · rw [Nat.min_eq_left q]
      · rw [Nat.min_eq_right q, List.take_of_length_le (by simp), List.take_of_length_le (by simpa using q)]
  | some a =>
    cases hi with
    | none =>
      rw [key (min a items.size) items.size (Nat.min_le_right _ _) (Nat.le_refl _) (by
        have h2 : ¬ ((a : Int) < 0) := by omega
        simp only [Option.map_none, Option.map_some, sliceBounds, Option.getD_none, h2, if_false, show (1 : Int) > 0 by decide, if_true]
        congr 1; omega)]
      simp only [pickV]
      congr 1
      rcases Nat.le_total a items.size with q | q
      · rw [Nat.min_eq_left q, List.take_of_length_le (by simp)]
      · rw [Nat.min_eq_right q, List.drop_eq_nil_of_le (by simp), List.drop_eq_nil_of_le (by simpa using q)]; simp
    | some b =>
      rw [key (min a items.size) (min b items.size) (Nat.min_le_right _ _) (Nat.min_le_right _ _) (by
        have h2 : ¬ ((a : Int) < 0) := by omega
        have h3 : ¬ ((b : Int) < 0) := by omega
        simp only [Option.map_none, Option.map_some, sliceBounds, Option.getD_none, h2, h3, if_false, show (1 : Int) > 0 by decide, if_true]
        congr 1
        · omega
        · congr 1; omega)]
      simp only [pickV]
      congr 1
      rcases Nat.le_total a items.size with q | q
      · rw [Nat.min_eq_left q]
        rcases Nat.le_total b items.size with r | r
        · rw [Nat.min_eq_left r]
        · rw [Nat.min_eq_right r, List.take_of_length_le (by simp), List.take_of_length_le (by simp; omega)]
      · rw [Nat.min_eq_right q, List.drop_eq_nil_of_le (by simp), List.drop_eq_nil_of_le (by simpa using q)]; simp
/-- a part of a slice -/
noncomputable def WP (g : Gh) (k : Nat) (env : Env) (wr : List Str) (e : Option Expr) (Q : Value → FM → AH → Prop) (m : FM) (σ : AH) : Prop := match e with
  | none => Q .none m σ
  | some e => WV g k env wr (eval e env) Q m σ
theorem WP.run {e : Option Expr} {Q : Value → FM → AH → Prop} (h : WP g k env wr e Q m σ) : WV g k env wr (evalPart e env) Q m σ := by
  cases e with
  | none => exact W.pure h
  | some e => exact h
theorem partV_is {u : Value} {lo : Option Nat} (h : er u = partV lo) : IsPart u (lo.map (fun (n : Nat) => (n : Int))) := by
  cases lo with
  | none => rw [er_none h]; exact .none
  | some a => obtain ⟨t, rfl⟩ := er_int h; exact .int _ _
theorem W.listSlice {value : Expr} {lower upper : Option Expr} {p pos : Pos} {Q : Value → FM → AH → Prop}
    (h : WV g k env wr (eval value env) (fun o m σ => WP g k env wr lower (fun l m σ => WP g k env wr upper (fun u m σ =>
      ∃ a vs lo hi, o = .ref a ∧ Rd g σ a (.list vs) ∧ vs.length ≤ 100000 ∧ l = partV lo ∧ u = partV hi ∧ ∀ D, Q (.ref D) m ((D, .list (pickV vs lo hi)) :: σ)) m σ) m σ) m σ)
    (ht : ∀ o r, letTemporaryGo value o r = Pure.pure ()) : WV g k env wr (eval (.Subscript value (.Slice lower upper none p) pos) env) Q m σ := by
  intro A B s ok S F
  refine wpAny_Subscript_list_slice (wpAny_mono (h A B s ok S F) ?_ fun _ _ e => e) ht
  rintro o s1 ⟨m1, σ1, S1, F1, h1⟩
  refine wpAny_mono (WP.run h1 A B s1 ok S1 F1) ?_ fun _ _ e => e
  rintro l s2 ⟨m2, σ2, S2, F2, h2⟩
  refine wpAny_mono (WP.run h2 A B s2 ok S2 F2) ?_ fun _ _ e => e
  rintro u s3 ⟨m3, σ3, S3, F3, a, vs, lo, hi, ho, hr, hlen, hl, hu, hq⟩
  obtain ⟨its, hil, e⟩ := hr.list S3
  have hle : its.length = vs.length := by rw [← e, List.length_map]
  refine ⟨a, _, _, _, er_ref ho, hil, by rw [List.size_toArray, sizeLine_eq]; omega, partV_is hl, partV_is hu, m3, _, ?_, ?_, hq _⟩
  · have := (S3.pushed { cls := .type "slice", data := .fields #[l, u, .none] }).push (o := { cls := .type "list", data := .seq (slicePick its.toArray (lo.map (fun (n : Nat) => (n : Int))) (hi.map (fun (n : Nat) => (n : Int))) none) }) (ao := .list (pickV vs lo hi)) ⟨_, _, rfl, by
      rw [slicePick_gen, List.toList_toArray, ← e]
      cases lo <;> cases hi <;> simp [pickV, List.map_drop, List.map_take]⟩
    rw [show ({ s3 with heap := s3.heap.push { cls := .type "slice", data := .fields #[l, u, .none] } } : Shared).heap.objs.size = s3.heap.objs.size + 1 from Heap.size_push ..] at this
    exact this
  · refine (F3.more fun b o e => Heap.get?_push_of_some _ (Heap.get?_push_of_some _ e)).keeps (fun _ _ _ e => e) (fun _ _ => rfl) fun b hb hB hm => ?_
    rcases List.mem_cons.mp hm with q | q
    · have q' : b = s3.heap.objs.size + 1 := q
      obtain ⟨o, ho⟩ := F3.live hb
      have hlt := Heap.lt_size ho
      rw [q'] at hlt
      exact absurd hlt (Nat.not_lt.mpr (Nat.le_succ _))
    · exact F3.off hb hB q
end
end Mine
/- R11 -/
namespace Mine
open PySem PySem.W PySem.Calls PyProof.Rows
/-- a str by its signs -/
noncomputable abbrev ss (l : List Nat) : Str := ⟨l.toArray⟩
noncomputable abbrev sv (l : List Nat) : Value := .str (ss l) 0
theorem ss_len (l : List Nat) : (ss l).length = l.length := by simp [ss, Str.length]
theorem ss_app (a b : List Nat) : ss a ++ ss b = ss (a ++ b) := Str.ext' (by simp [Str.cps_append])
theorem ss_eq (a b : List Nat) : (ss a == ss b) = decide (a = b) := by
  by_cases h : a = b
  · subst h; simp
  · have : ss a ≠ ss b := fun e => h (by have := congrArg Str.cps e; simpa using this)
    simp [h, beq_eq_false_iff_ne.mpr this]
theorem ss_inj {a b : List Nat} (h : ss a = ss b) : a = b := by have := congrArg Str.cps h; simpa using this
section
variable {α β : Type} {g : Gh} {k : Nat} {env : Env} {wr : List Str} {m : FM} {σ : AH}
theorem W.cSv {x : Str} {l : List Nat} {j : Nat} {pos : Pos} {Q : Value → FM → AH → Prop} (hx : x = ss l) (h : Q (sv l) m σ) : WV g k env wr (eval (.Constant (.str x) j pos) env) Q m σ := by
  subst hx; exact W.cStr h
theorem BO.addStr {a b : List Nat} {Q : Value → AH → Prop} (hl : a.length + b.length ≤ 1000000) (h : Q (sv (a ++ b)) σ) : BO g k .Add (sv a) (sv b) Q σ := by
  intro x y hx hy A B s ok S
  obtain ⟨t, rfl⟩ := er_str hx; obtain ⟨u, rfl⟩ := er_str hy
  exact wpAny_gain S.pos (PyProof.Rows.add_str (fun t' tk hp => ⟨σ, S.tok _ hp, by rw [ss_app]; exact h⟩) (by rw [ss_len, ss_len, sizeLine_eq]; omega))
theorem BO.mulStr {a : List Nat} {n : Nat} {Q : Value → AH → Prop} (hn : 2 ≤ n) (hb : n ≤ 1000) (hl : a.length ≤ 1000) (h0 : 0 < a.length) (h : Q (sv (List.replicate n a).flatten) σ) : BO g k .Mult (sv a) (.int n 0) Q σ := by
  intro x y hx hy A B s ok S
  obtain ⟨t, rfl⟩ := er_str hx; obtain ⟨u, rfl⟩ := er_int hy
  have hm : a.length * n ≤ 1000 * 1000 := Nat.mul_le_mul hl hb
  have hlen : (ss a).length = a.length := ss_len a
  have hne : ((n : Int) == 1 || (ss a).length == 0) = false := by
    rw [hlen, Bool.or_eq_false_iff]
    exact ⟨by rw [beq_eq_false_iff_ne]; omega, by rw [beq_eq_false_iff_ne]; omega⟩
  refine P.mul_str ?_ ?_ ?_ ?_
  · rw [Bool.or_eq_false_iff]; exact ⟨decide_eq_false (by omega), decide_eq_false (by omega)⟩
  · intro _ _
    rw [hlen]
    have : (1000000 : Int) ≤ (2 ^ 63 - 1) / (n : Int) := by
      apply Int.le_ediv_of_mul_le (by omega)
      have : (1000000 : Int) * n ≤ 1000000 * 1000 := Int.mul_le_mul_of_nonneg_left (by omega) (by omega)
      omega
    omega
  · intro _ _
    rw [hlen]
    unfold Builtin.Str.tooLong
    exact decide_eq_false (by rw [sizeLine_eq, Int.toNat_natCast]; omega)
  · rw [if_neg (by omega), hne, if_neg (by decide)]
    have e : (⟨(List.replicate (n : Int).toNat (ss a).cps).foldl (· ++ ·) #[]⟩ : Str) = ss (List.replicate n a).flatten := by
      apply Str.ext'
      show (List.replicate (n : Int).toNat a.toArray).foldl (· ++ ·) #[] = _
      rw [Int.toNat_natCast]
      have gen : ∀ (k : Nat) (acc : List Nat), (List.replicate k a.toArray).foldl (· ++ ·) acc.toArray = (acc ++ (List.replicate k a).flatten).toArray := by
        intro k
        induction k with
        | zero => intro acc; simp
        | succ k ih => intro acc; rw [List.replicate_succ, List.foldl_cons, List.append_toArray, ih, List.replicate_succ, List.flatten_cons, List.append_assoc]
      exact gen n []
    rw [e]
    refine ⟨?_, σ, S.tok _, h⟩
    rw [ss_len, sizeLine_eq, List.length_flatten, List.map_replicate, List.sum_replicate_nat]
    have := Nat.mul_comm a.length n
    omega
theorem CO.eqStr {a b : List Nat} {Q : Value → AH → Prop} (h : Q (.bool (decide (a = b))) σ) : CO g k .Eq (sv a) (sv b) Q σ := by
  intro x y hx hy A B s ok S
  obtain ⟨t, rfl⟩ := er_str hx; obtain ⟨u, rfl⟩ := er_str hy
  exact PyProof.Rows.eq_str ⟨σ, S, by rw [ss_eq]; exact h⟩
theorem CO.neStr {a b : List Nat} {Q : Value → AH → Prop} (h : Q (.bool (!decide (a = b))) σ) : CO g k .NotEq (sv a) (sv b) Q σ := by
  intro x y hx hy A B s ok S
  obtain ⟨t, rfl⟩ := er_str hx; obtain ⟨u, rfl⟩ := er_str hy
  exact PyProof.Rows.ne_str ⟨σ, S, by rw [bne, ss_eq]; exact h⟩
/-- one sign in a str -/
theorem CO.inStr1 {c : Nat} {b : List Nat} {Q : Value → AH → Prop} (h : Q (.bool (decide (c ∈ b))) σ) : CO g k .In (sv [c]) (sv b) Q σ := by
  intro x y hx hy A B s ok S
  obtain ⟨t, rfl⟩ := er_str hx; obtain ⟨u, rfl⟩ := er_str hy
  refine PyProof.Rows.in_str ⟨σ, S, ?_⟩
  rw [StrLaws.found_one]
  exact h
theorem SB.str {value slice : Expr} {a : List Nat} {i : Nat} {c : Nat} {Q : Value → AH → Prop} (hi : a[i]? = some c) (hb : a.length ≤ 1000000) (h : Q (sv [c]) σ)
    (hs : ∀ (t u : Tok), subscripted slice false (.str (ss a) t) (.int i u) = operate [.str (ss a) t, .int i u] (getItem (.str (ss a) t) (.int i u)) := by intro _ _; with_unfolding_all rfl) : SB g k value slice (sv a) (.int i 0) Q σ := by
  intro x y hx hy A B s ok S
  obtain ⟨t, rfl⟩ := er_str hx
  obtain ⟨u, rfl⟩ := er_int hy
  have hlt : i < a.length := (List.getElem?_eq_some_iff.mp hi).1
  refine tail_any (typeIs_str s _ t) F.slot_str_getitem.lookup (PyProof.Rows.getItem_str ?_ ?_ ⟨σ, S.tok _, h⟩) (hs t u)
  · rw [Bool.or_eq_false_iff]; exact ⟨decide_eq_false (by omega), decide_eq_false (by omega)⟩
  · rw [StrLaws.seqIndex_nonneg (by omega) (by rw [ss_len]; omega), Option.bind_some, Int.toNat_natCast]
    simpa using hi
theorem SB.listNeg {value slice : Expr} {a : Addr} {vs : List Value} {v : Value} {n : Nat} {Q : Value → AH → Prop} (hr : Rd g σ a (.list vs)) (hx : vs.getLast? = some v) (hb : vs.length ≤ 1000000) (h : Q v σ)
    (hs : ∀ u : Tok, subscripted slice false (.ref a) (.int (-1) u) = operate [.ref a, .int (-1) u] (getItem (.ref a) (.int (-1) u)) := by intro _; with_unfolding_all rfl) : SB g k value slice (.ref a) (.int (-1) 0) Q σ := by
  intro x y hx' hy A B s ok S
  rw [er_ref hx']
  obtain ⟨t, rfl⟩ := er_int hy
  obtain ⟨its, hl, e⟩ := hr.list S
  have hlen : its.length = vs.length := by rw [← e, List.length_map]
  have hne : 0 < vs.length := by
    cases vs with
    | nil => cases hx
    | cons _ _ => simp
  rw [List.getLast?_eq_getElem?] at hx
  obtain ⟨u, hu, rfl⟩ := map_er_get e hx
  refine tail_any hl.typeIs slot_list_getitem.lookup (wpAny_getItem_list_neg (x := u) hl (by omega) (by rw [List.size_toArray]; omega) (by omega) ?_ ⟨σ, S, h⟩) (hs t)
  rw [List.size_toArray, show ((-1 : Int) + (its.length : Int)).toNat = vs.length - 1 by omega]
  simpa using hu
theorem CK.lenStr {a : List Nat} {Q : Value → AH → Prop} (hb : a.length ≤ 1000000) (h : Q (.int a.length 0) σ) : CK g k (.builtin "len") [sv a] [] Q σ := by
  intro args kw ha hk A B s ok S
  obtain ⟨x, rfl, hx⟩ := args1 ha
  obtain ⟨t, rfl⟩ := er_str hx
  cases List.map_eq_nil_iff.mp hk
  refine PyProof.Rows.len_str (by rw [ss_len]; omega) ⟨σ, (S.tok (s.toks + 1)).tok _, ?_⟩
  rw [ss_len]; exact h
theorem CK.upper {a : List Nat} {b : List Nat} {Q : Value → AH → Prop} (e : Txt.upper (ss a) = ss b) (hb : b.length ≤ 1000000) (h : Q (sv b) σ) : CK g k (.builtin "str.upper") [sv a] [] Q σ := by
  intro args kw ha hk A B s ok S
  obtain ⟨x, rfl, hx⟩ := args1 ha
  obtain ⟨t, rfl⟩ := er_str hx
  cases List.map_eq_nil_iff.mp hk
  exact SC.upper (by rw [e, ss_len]; unfold Builtin.Str.tooLong; exact decide_eq_false (by rw [sizeLine_eq]; omega)) ⟨σ, S.tok _, by rw [e]; exact h⟩
theorem CK.lower {a : List Nat} {b : List Nat} {Q : Value → AH → Prop} (e : Txt.lower (ss a) = ss b) (hb : b.length ≤ 1000000) (h : Q (sv b) σ) : CK g k (.builtin "str.lower") [sv a] [] Q σ := by
  intro args kw ha hk A B s ok S
  obtain ⟨x, rfl, hx⟩ := args1 ha
  obtain ⟨t, rfl⟩ := er_str hx
  cases List.map_eq_nil_iff.mp hk
  exact SC.lower (by rw [e, ss_len]; unfold Builtin.Str.tooLong; exact decide_eq_false (by rw [sizeLine_eq]; omega)) ⟨σ, S.tok _, by rw [e]; exact h⟩
theorem CK.strOfInt {n : Int} {Q : Value → AH → Prop} (h0 : n.natAbs.log2 < 1920) (h : Q (.str (toString n) 0) σ) : CK g k (.type "str") [.int n 0] [] Q σ := by
  intro args kw ha hk A B s ok S
  obtain ⟨x, rfl, hx⟩ := args1 ha
  obtain ⟨t, rfl⟩ := er_int hx
  cases List.map_eq_nil_iff.mp hk
  exact P.str_of_int h0 ⟨σ, S.tok _, h⟩
theorem CK.intOfStr {n : Int} {Q : Value → AH → Prop} (h0 : 0 ≤ n) (h1 : n < 10 ^ 10) (h : Q (.int n 0) σ) : CK g k (.type "int") [.str (toString n) 0] [] Q σ := by
  intro args kw ha hk A B s ok S
  obtain ⟨x, rfl, hx⟩ := args1 ha
  obtain ⟨t, rfl⟩ := er_str hx
  cases List.map_eq_nil_iff.mp hk
  exact KIN.call_num h0 h1 ⟨σ, S.tok _, h⟩
theorem ss_to (x : Str) : ∃ l, x = ss l := ⟨x.cps.toList, rfl⟩
theorem join_cons_cons (sep x y : Str) (r : List Str) : Str.join sep (x :: y :: r) = x ++ sep ++ Str.join sep (y :: r) := rfl
theorem splits_join {c : Nat} : ∀ (ps : List Str), ps ≠ [] → (∀ p ∈ ps, c ∉ p.cps.toList) → splits c (Str.join ⟨#[c]⟩ ps).cps.toList = ps.map fun p => p.cps.toList
  | [], h, _ => absurd rfl h
  | [p], _, hf => by
    show splits c p.cps.toList = _
    rw [splits_free (hf p (by simp))]; rfl
  | p :: q :: r, _, hf => by
    rw [join_cons_cons]
    have e : (p ++ (⟨#[c]⟩ : Str) ++ Str.join ⟨#[c]⟩ (q :: r)).cps.toList = p.cps.toList ++ c :: (Str.join ⟨#[c]⟩ (q :: r)).cps.toList := by
      simp [Str.cps_append]
    rw [e, splits_cat (hf p (by simp)), splits_join (q :: r) (by simp) (fun x hx => hf x (List.mem_cons_of_mem _ hx))]
    rfl
theorem txt_split_ne (x y : Str) : Txt.split x y ≠ [] := by
  unfold Txt.split
  split
  · simp
  · split
    · simp
    · rw [StrLaws.partsBetween_eq]
      obtain ⟨p, r, e⟩ := StrLaws.partsFrom_ne x y.length 0 (Builtin.Str.occurrences x y 0 x.length (x.length + 1))
      rw [e]; simp
theorem split_is (l : List Nat) (c : Nat) : Txt.split (ss l) ⟨#[c]⟩ = (splits c l).map ss := by
  have h1 := splits_join (c := c) (Txt.split (ss l) ⟨#[c]⟩) (txt_split_ne _ _) (StrLaws.split_free _ c)
  rw [StrLaws.join_split] at h1
  have h1' : splits c l = (Txt.split (ss l) ⟨#[c]⟩).map fun p => p.cps.toList := by simpa using h1
  rw [h1', List.map_map]
  conv => lhs; rw [← List.map_id (Txt.split (ss l) ⟨#[c]⟩)]
  apply List.map_congr_left
  intro p _
  simp [ss]
theorem join_ss (z : List Nat) : ∀ ps : List (List Nat), Str.join (ss z) (ps.map ss) = ss (List.intercalate z ps)
  | [] => rfl
  | [p] => by simp [Str.join, List.intercalate]
  | p :: q :: r => by
    have := join_ss z (q :: r)
    rw [List.map_cons, List.map_cons, join_cons_cons, ← List.map_cons, this, ss_app, ss_app]
    simp [List.intercalate]
theorem replace_is (l z : List Nat) (c : Nat) : Txt.replace (ss l) ⟨#[c]⟩ (ss z) = ss (repl c z l) := by
  rw [StrLaws.replace_one, split_is, join_ss, intercalate_splits]
end
end Mine
/- R12 -/
namespace Mine
open PySem PySem.W PySem.Calls PyProof.Rows PySem.SeqAt
section
variable {α β γ : Type} {g : Gh} {k : Nat} {env : Env} {wr : List Str} {m : FM} {σ : AH}
/- equality -/
noncomputable def EqV (g : Gh) (σ : AH) (n : Nat) (x y : Value) (b : Bool) : Prop := ∀ (A : Around) (B : Base) (s : Shared) (u v : Value), A.units ≤ 9500 + n → SS g B σ s → er u = x → er v = y → EqAt A s u v b
noncomputable def EqR [DecidableEq γ] (g : Gh) (σ : AH) (n : Nat) (R : Value → γ → Prop) : Prop :=
  (∀ x y c d, R x c → R y d → EqV g σ n x y (decide (c = d))) ∧ (∀ B s, SS g B σ s → ∀ x c d, R x c → R x d → c = d)
noncomputable def RI (x : Value) (i : Int) : Prop := x = .int i 0
noncomputable def RS (x : Value) (l : List Nat) : Prop := x = sv l
noncomputable def Both (R : Value → γ → Prop) (xs : List Value) (cs : List γ) : Prop := xs.length = cs.length ∧ ∀ (i : Nat) (x : Value) (c : γ), xs[i]? = some x → cs[i]? = some c → R x c
noncomputable def RL (g : Gh) (σ : AH) (R : Value → γ → Prop) (x : Value) (cs : List γ) : Prop := ∃ a xs, x = .ref a ∧ Rd g σ a (.list xs) ∧ Both R xs cs
noncomputable def RT (g : Gh) (σ : AH) (R : Value → γ → Prop) (x : Value) (cs : List γ) : Prop := ∃ a xs, x = .ref a ∧ Rd g σ a (.tup xs) ∧ Both R xs cs
theorem EqR.int {n : Nat} : EqR g σ n RI := by
  constructor
  · rintro x y c d rfl rfl A B s u v hA S hu hv
    obtain ⟨t, rfl⟩ := er_int hu
    obtain ⟨t', rfl⟩ := er_int hv
    have e : decide (c = d) = (c == d) := rfl
    rw [e]
    exact EqAt.int_int c t d t'
  · rintro B s S x c d h1 h2
    rw [h1] at h2
    exact (Value.int.inj h2).1
theorem EqR.str {n : Nat} : EqR g σ n RS := by
  constructor
  · rintro x y c d rfl rfl A B s u v hA S hu hv
    obtain ⟨t, rfl⟩ := er_str hu
    obtain ⟨t', rfl⟩ := er_str hv
    have := EqAt.str_str (A := A) (s := s) (ss c) t (ss d) t'
    rwa [ss_eq] at this
  · rintro B s S x c d h1 h2
    rw [h1] at h2
    exact ss_inj (Value.str.inj h2).1
theorem Both.at_ {R : Value → γ → Prop} {xs : List Value} {cs : List γ} (h : Both R xs cs) {i : Nat} (hi : i < xs.length) : R xs[i] (cs[i]'(h.1 ▸ hi)) :=
  h.2 i _ _ (List.getElem?_eq_getElem hi) (List.getElem?_eq_getElem (h.1 ▸ hi))
theorem Both.map {R : Value → γ → Prop} {f : γ → Value} (h : ∀ c, R (f c) c) (cs : List γ) : Both R (cs.map f) cs :=
  ⟨by simp, fun i x c hx hc => by rw [List.getElem?_map, hc] at hx; cases hx; exact h c⟩
theorem Both.map' {R : Value → γ → Prop} {δ : Type} {f : δ → Value} {e : δ → γ} (h : ∀ c, R (f c) (e c)) (cs : List δ) : Both R (cs.map f) (cs.map e) :=
  ⟨by simp, fun i x c hx hc => by
    rw [List.getElem?_map] at hx hc
    cases hd : cs[i]? with
    | none => rw [hd] at hx; cases hx
    | some d => rw [hd] at hx hc; cases hx; cases hc; exact h d⟩
theorem all_eq [DecidableEq γ] {cs ds : List γ} (h : cs.length = ds.length) {e : Nat → Bool} (he : ∀ i (h1 : i < cs.length) (h2 : i < ds.length), e i = decide (cs[i] = ds[i])) : ((List.range cs.length).all e) = decide (cs = ds) := by
  rw [Bool.eq_iff_iff, decide_eq_true_eq, List.all_eq_true]
  constructor
  · intro H
    apply List.ext_getElem h
    intro i h1 h2
    have := H i (List.mem_range.mpr h1)
    rw [he i h1 h2, decide_eq_true_eq] at this
    exact this
  · rintro rfl i hi
    rw [he i (List.mem_range.mp hi) (List.mem_range.mp hi)]; simp
theorem er_same {its jts : List Value} {a : Addr} {s : Shared} {o o' : Obj} (h : s.heap.get? a = some o) (h' : s.heap.get? a = some o') : o = o' := by rw [h] at h'; exact Option.some.inj h'
theorem Rd.listFun {a : Addr} {xs ys : List Value} {B : Base} {s : Shared} (S : SS g B σ s) (h : Rd g σ a (.list xs)) (h' : Rd g σ a (.list ys)) : xs = ys := by
  obtain ⟨o, ho, its, n, rfl, e⟩ := h.get S
  obtain ⟨o', ho', its', n', rfl, e'⟩ := h'.get S
  rw [ho] at ho'
  cases ho'
  exact e.symm.trans e'
theorem Rd.tupFun {a : Addr} {xs ys : List Value} {B : Base} {s : Shared} (S : SS g B σ s) (h : Rd g σ a (.tup xs)) (h' : Rd g σ a (.tup ys)) : xs = ys := by
  obtain ⟨o, ho, its, n, rfl, e⟩ := h.get S
  obtain ⟨o', ho', its', n', rfl, e'⟩ := h'.get S
  rw [ho] at ho'
  cases ho'
  exact e.symm.trans e'
theorem Both.fun_ {R : Value → γ → Prop} (hf : ∀ x c d, R x c → R x d → c = d) {xs : List Value} {cs ds : List γ} (h : Both R xs cs) (h' : Both R xs ds) : cs = ds := by
  apply List.ext_getElem (h.1.symm.trans h'.1)
  intro i h1 h2
  exact hf _ _ _ (h.at_ (h.1 ▸ h1)) (h'.at_ (h.1 ▸ h1))
/-- what two lists' items tell each other -/
theorem items_eq [DecidableEq γ] {n : Nat} {R : Value → γ → Prop} (E : EqR g σ (n + 1) R) {A : Around} {B : Base} {s : Shared} (hA : A.units ≤ 9500 + n) (S : SS g B σ s) {its jts xs ys : List Value} (e1 : its.map er = xs) (e2 : jts.map er = ys)
    {cs ds : List γ} (h1 : Both R xs cs) (h2 : Both R ys ds) : ∀ j (p : j < its.toArray.size) (q : j < jts.toArray.size), EqAt A.in1 s its.toArray[j] jts.toArray[j] (match cs[j]?, ds[j]? with | some c, some d => decide (c = d) | _, _ => false) := by
  intro j p q
  have p' : j < its.length := by simpa using p
  have q' : j < jts.length := by simpa using q
  have l1 : its.length = xs.length := by rw [← e1, List.length_map]
  have l2 : jts.length = ys.length := by rw [← e2, List.length_map]
  have a1 := h1.at_ (i := j) (by omega)
  have a2 := h2.at_ (i := j) (by omega)
  have hc : j < cs.length := by have := h1.1; omega
  have hd : j < ds.length := by have := h2.1; omega
  rw [List.getElem?_eq_getElem hc, List.getElem?_eq_getElem hd]
  have := E.1 _ _ _ _ a1 a2 A.in1 B s its[j] jts[j] (by show A.units + 1 ≤ 9500 + (n + 1); omega) S (by subst e1; rw [List.getElem_map]) (by subst e2; rw [List.getElem_map])
  simpa using this
theorem rc_list [DecidableEq γ] {n : Nat} (hn : n ≤ 300) {R : Value → γ → Prop} (E : EqR g σ (n + 1) R) {A : Around} {B : Base} {s : Shared} (hA : A.units ≤ 9500 + n) (S : SS g B σ s) {a b : Addr} {xs ys : List Value} {cs ds : List γ}
    (ha : Rd g σ a (.list xs)) (hb : Rd g σ b (.list ys)) (h1 : Both R xs cs) (h2 : Both R ys ds) : RcAt A s (.ref a) (.ref b) (decide (cs = ds)) ∧ RcNeAt A s (.ref a) (.ref b) (!decide (cs = ds)) := by
  obtain ⟨its, hl, e1⟩ := ha.list S
  obtain ⟨jts, hm, e2⟩ := hb.list S
  have l1 : its.length = xs.length := by rw [← e1, List.length_map]
  have l2 : jts.length = ys.length := by rw [← e2, List.length_map]
  have hu : A.units < cLine := by show A.units < 9900; omega
  have I := items_eq E hA S e1 e2 h1 h2
  by_cases hlen : cs.length = ds.length
  · have hsz : its.toArray.size = jts.toArray.size := by simp [l1, l2, h1.1, h2.1, hlen]
    have key : ((List.range its.toArray.size).all fun j => match cs[j]?, ds[j]? with | some c, some d => decide (c = d) | _, _ => false) = decide (cs = ds) := by
      rw [show its.toArray.size = cs.length by simp [l1, h1.1]]
      refine all_eq hlen fun i q1 q2 => ?_
      rw [List.getElem?_eq_getElem q1, List.getElem?_eq_getElem q2]
    have r1 := RcAt.lists hl hm hsz hu I
    have r2 := RcNeAt.lists hl hm hsz hu I
    rw [key] at r1 r2
    exact ⟨r1, r2⟩
  · have hsz : (its.toArray.size != jts.toArray.size) = true := by
      rw [bne_iff_ne]; simp [l1, l2, h1.1, h2.1]; exact hlen
    have hne : decide (cs = ds) = false := decide_eq_false fun e => hlen (by rw [e])
    rw [hne]
    exact ⟨RcAt.lists_lengths hl hm hsz hu, RcNeAt.lists_lengths hl hm hsz hu⟩
theorem EqR.list [DecidableEq γ] {n : Nat} (hn : n ≤ 300) {R : Value → γ → Prop} (E : EqR g σ (n + 1) R) : EqR g σ n (RL g σ R) := by
  constructor
  · rintro x y cs ds ⟨a, xs, rfl, ha, h1⟩ ⟨b, ys, rfl, hb, h2⟩ A B s u v hA S hu hv
    rw [er_ref hu, er_ref hv]
    by_cases hab : a = b
    · subst hab
      have e := Rd.listFun S ha hb
      subst e
      have : cs = ds := Both.fun_ (E.2 B s S) h1 h2
      rw [decide_eq_true this]
      exact EqAt.same _
    · exact EqAt.of_refs hab (rc_list hn E hA S ha hb h1 h2).1
  · rintro B s S x cs ds ⟨a, xs, rfl, ha, h1⟩ ⟨b, ys, hx, hb, h2⟩
    cases hx
    have e := Rd.listFun S ha hb
    subst e
    exact Both.fun_ (E.2 B s S) h1 h2
theorem EqR.tup [DecidableEq γ] {n : Nat} (hn : n ≤ 300) {R : Value → γ → Prop} (E : EqR g σ (n + 1) R) : EqR g σ n (RT g σ R) := by
  constructor
  · rintro x y cs ds ⟨a, xs, rfl, ha, h1⟩ ⟨b, ys, rfl, hb, h2⟩ A B s u v hA S hu hv
    rw [er_ref hu, er_ref hv]
    by_cases hab : a = b
    · subst hab
      have e := Rd.tupFun S ha hb
      subst e
      have : cs = ds := Both.fun_ (E.2 B s S) h1 h2
      rw [decide_eq_true this]
      exact EqAt.same _
    · obtain ⟨its, hl, e1⟩ := ha.tup S
      obtain ⟨jts, hm, e2⟩ := hb.tup S
      have l1 : its.length = xs.length := by rw [← e1, List.length_map]
      have l2 : jts.length = ys.length := by rw [← e2, List.length_map]
      have hu : A.units < cLine := by show A.units < 9900; omega
      have r := RcAt.tuples hl hm hu (items_eq E hA S e1 e2 h1 h2)
      have key : (((List.range (min its.toArray.size jts.toArray.size)).all fun j => match cs[j]?, ds[j]? with | some c, some d => decide (c = d) | _, _ => false) && its.toArray.size == jts.toArray.size) = decide (cs = ds) := by
        by_cases hlen : cs.length = ds.length
        · rw [show its.toArray.size = cs.length by simp [l1, h1.1], show jts.toArray.size = cs.length by simp [l2, h2.1, hlen], Nat.min_self, beq_self_eq_true, Bool.and_true]
          refine all_eq hlen fun i q1 q2 => ?_
          rw [List.getElem?_eq_getElem q1, List.getElem?_eq_getElem q2]
        · have hne : decide (cs = ds) = false := decide_eq_false fun e => hlen (by rw [e])
          have : (its.toArray.size == jts.toArray.size) = false := by rw [beq_eq_false_iff_ne]; simp [l1, l2, h1.1, h2.1]; exact hlen
          rw [hne, this, Bool.and_false]
      rw [key] at r
      exact EqAt.of_refs hab r
  · rintro B s S x cs ds ⟨a, xs, rfl, ha, h1⟩ ⟨b, ys, hx, hb, h2⟩
    cases hx
    have e := Rd.tupFun S ha hb
    subst e
    exact Both.fun_ (E.2 B s S) h1 h2
theorem OkA.u95 {A : Around} (h : OkA k A) : A.units ≤ 9500 + 0 := by have := h.units; omega
theorem CO.eqL [DecidableEq γ] {R : Value → γ → Prop} (E : EqR g σ 1 R) {x y : Value} {cs ds : List γ} (hx : RL g σ R x cs) (hy : RL g σ R y ds) {Q : Value → AH → Prop} (h : Q (.bool (decide (cs = ds))) σ) : CO g k .Eq x y Q σ := by
  obtain ⟨a, xs, rfl, ha, h1⟩ := hx
  obtain ⟨b, ys, rfl, hb, h2⟩ := hy
  intro u v hu hv A B s ok S
  rw [er_ref hu, er_ref hv]
  exact (rc_list (by omega) E ok.u95 S ha hb h1 h2).1 _ _ _ _ ⟨σ, S, h⟩
theorem CO.neL [DecidableEq γ] {R : Value → γ → Prop} (E : EqR g σ 1 R) {x y : Value} {cs ds : List γ} (hx : RL g σ R x cs) (hy : RL g σ R y ds) {Q : Value → AH → Prop} (h : Q (.bool (!decide (cs = ds))) σ) : CO g k .NotEq x y Q σ := by
  obtain ⟨a, xs, rfl, ha, h1⟩ := hx
  obtain ⟨b, ys, rfl, hb, h2⟩ := hy
  intro u v hu hv A B s ok S
  rw [er_ref hu, er_ref hv]
  exact (rc_list (by omega) E ok.u95 S ha hb h1 h2).2 _ _ _ _ ⟨σ, S, h⟩
theorem any_mem [DecidableEq γ] {R : Value → γ → Prop} (E : EqR g σ 1 R) {x : Value} {c : γ} (hx : R x c) {a : Addr} {xs : List Value} {cs : List γ} (ha : Rd g σ a (.list xs)) (hc : Both R xs cs) {A : Around} {B : Base} {s : Shared} (hA : A.units ≤ 9500 + 0) (S : SS g B σ s) {u : Value} (hu : er u = x) :
    ∃ (its : List Value) (e : Value → Bool), s.heap.IsList a its.toArray ∧ (∀ y, y ∈ its.toArray → EqAt A.in1 s y u (e y)) ∧ its.toArray.any e = decide (c ∈ cs) := by
  obtain ⟨its, hl, e⟩ := ha.list S
  classical
  refine ⟨its, fun y => decide (∃ d, d ∈ cs ∧ R (er y) d ∧ d = c), hl, fun y hy => ?_, ?_⟩
  · have hy' : y ∈ its := by simpa using hy
    obtain ⟨i, hi, rfl⟩ := List.mem_iff_getElem.mp hy'
    have hix : i < xs.length := by rw [← e, List.length_map]; exact hi
    have r := hc.at_ hix
    have hex : xs[i] = er its[i] := by subst e; rw [List.getElem_map]
    rw [hex] at r
    have := E.1 _ _ _ _ r hx A.in1 B s its[i] u (by show A.units + 1 ≤ 9500 + 1; omega) S rfl hu
    have hd : decide (∃ d, d ∈ cs ∧ R (er its[i]) d ∧ d = c) = decide (cs[i]'(hc.1 ▸ hix) = c) := by
      rw [Bool.eq_iff_iff, decide_eq_true_eq, decide_eq_true_eq]
      constructor
      · rintro ⟨d, _, hd, rfl⟩; exact E.2 B s S _ _ _ r hd
      · intro hh; exact ⟨_, List.getElem_mem _, r, hh⟩
    rw [← hd] at this; exact this
  · rw [Bool.eq_iff_iff, decide_eq_true_eq, List.any_toArray, List.any_eq_true]
    constructor
    · rintro ⟨y, hy, h⟩
      rw [decide_eq_true_eq] at h
      obtain ⟨d, hd, _, rfl⟩ := h
      exact hd
    · intro hm
      obtain ⟨i, hi, rfl⟩ := List.mem_iff_getElem.mp hm
      have hix : i < xs.length := by rw [hc.1]; exact hi
      have hii : i < its.length := by have : its.length = xs.length := by rw [← e, List.length_map]
                                      omega
      refine ⟨its[i], List.getElem_mem _, ?_⟩
      rw [decide_eq_true_eq]
      have r := hc.at_ hix
      have hex : xs[i] = er its[i] := by subst e; rw [List.getElem_map]
      rw [hex] at r
      exact ⟨_, List.getElem_mem _, r, rfl⟩
theorem CO.inL [DecidableEq γ] {R : Value → γ → Prop} (E : EqR g σ 1 R) {x y : Value} {c : γ} {cs : List γ} (hx : R x c) (hy : RL g σ R y cs) {Q : Value → AH → Prop} (h : Q (.bool (decide (c ∈ cs))) σ) : CO g k .In x y Q σ := by
  obtain ⟨a, xs, rfl, ha, h1⟩ := hy
  intro u v hu hv A B s ok S
  rw [er_ref hv]
  obtain ⟨its, e, hl, he, hk⟩ := any_mem E hx ha h1 ok.u95 S hu
  exact in_listAt e hl he ⟨σ, S, by rw [hk]; exact h⟩
theorem CO.notInL [DecidableEq γ] {R : Value → γ → Prop} (E : EqR g σ 1 R) {x y : Value} {c : γ} {cs : List γ} (hx : R x c) (hy : RL g σ R y cs) {Q : Value → AH → Prop} (h : Q (.bool (!decide (c ∈ cs))) σ) : CO g k .NotIn x y Q σ := by
  obtain ⟨a, xs, rfl, ha, h1⟩ := hy
  intro u v hu hv A B s ok S
  rw [er_ref hv]
  obtain ⟨its, e, hl, he, hk⟩ := any_mem E hx ha h1 ok.u95 S hu
  exact notIn_listAt e hl he ⟨σ, S, by rw [hk]; exact h⟩
/- list + list -/
theorem BO.addList {a b : Addr} {xs ys : List Value} {Q : Value → AH → Prop} (ha : Rd g σ a (.list xs)) (hb : Rd g σ b (.list ys)) (hl : xs.length + ys.length ≤ 100000) (h : ∀ D, Q (.ref D) ((D, .list (xs ++ ys)) :: σ)) : BO g k .Add (.ref a) (.ref b) Q σ := by
  intro u v hu hv A B s ok S
  rw [er_ref hu, er_ref hv]
  obtain ⟨o, ho, its, n, rfl, e1⟩ := ha.get S
  obtain ⟨o', ho', jts, n', rfl, e2⟩ := hb.get S
  have l1 : its.size = xs.length := by rw [← e1]; simp
  have l2 : jts.size = ys.length := by rw [← e2]; simp
  exact P.add_list ho ho' ⟨_, S.push (ao := .list (xs ++ ys)) ⟨_, _, rfl, by rw [Array.toList_append, List.map_append, e1, e2]⟩, h _⟩ (by rw [sizeLine_eq]; omega)
/- append -/
theorem CK.append {i : Nat} {a : Addr} {vs : List Value} {v : Value} {Q : Value → AH → Prop} (hi : σ[i]? = some (a, .list vs)) (hsz : vs.length ≤ 1000000) (h : Q .none (σ.set i (a, .list (vs ++ [v])))) : CK g k (.builtin "list.append") [.ref a, v] [] Q σ := by
  intro args kw ha hk A B s ok S
  obtain ⟨p, q, rfl, h1, h2⟩ := args2 ha
  rw [er_ref h1]
  cases List.map_eq_nil_iff.mp hk
  obtain ⟨o, ho, its, n, rfl, e⟩ := S.get (List.mem_of_getElem? hi)
  have hlen : its.size = vs.length := by rw [← e]; simp
  refine wpAny_list_append_plain (items := its) ⟨n, ho⟩ (fun h' hp hs => ?_) (by rw [sizeLine_eq]; omega)
  obtain ⟨n', hp'⟩ := hp
  exact ⟨_, S.change (ao' := .list (vs ++ [v])) hi hp' hs.extBut ⟨_, _, rfl, by simp [e, h2]⟩, h⟩
/- range -/
theorem CK.range1 {n : Int} {Q : Value → AH → Prop} (h : ∀ D o, rangeObj 0 n 1 o → Q (.ref D) ((D, .is o) :: σ)) : CK g k (.type "range") [.int n 0] [] Q σ := by
  intro args kw ha hk A B s ok S
  obtain ⟨p, rfl, h1⟩ := args1 ha
  obtain ⟨t, rfl⟩ := er_int h1
  cases List.map_eq_nil_iff.mp hk
  exact call_range_1 ⟨_, ((S.push (ao := .is _) ⟨rfl, rfl⟩).tok (s.toks + 1)).tok _, h _ _ ⟨_, _, _, rfl⟩⟩
theorem CK.range2 {a n : Int} {Q : Value → AH → Prop} (h : ∀ D o, rangeObj a n 1 o → Q (.ref D) ((D, .is o) :: σ)) : CK g k (.type "range") [.int a 0, .int n 0] [] Q σ := by
  intro args kw ha hk A B s ok S
  obtain ⟨p, q, rfl, h1, h2⟩ := args2 ha
  obtain ⟨t, rfl⟩ := er_int h1
  obtain ⟨t', rfl⟩ := er_int h2
  cases List.map_eq_nil_iff.mp hk
  exact call_range_2 ⟨_, (S.push (ao := .is _) ⟨rfl, rfl⟩).tok _, h _ _ ⟨_, _, _, rfl⟩⟩
theorem CK.range3 {a n c : Int} {Q : Value → AH → Prop} (hc : c ≠ 0) (hs : c.natAbs < 1073741824) (h : ∀ D o, rangeObj a n c o → Q (.ref D) ((D, .is o) :: σ)) : CK g k (.type "range") [.int a 0, .int n 0, .int c 0] [] Q σ := by
  intro args kw ha hk A B s ok S
  obtain ⟨p, q, r, rfl, h1, h2, h3⟩ := args3 ha
  obtain ⟨t, rfl⟩ := er_int h1
  obtain ⟨t', rfl⟩ := er_int h2
  obtain ⟨t'', rfl⟩ := er_int h3
  cases List.map_eq_nil_iff.mp hk
  exact call_range_3 hc ⟨_, S.push (ao := .is _) ⟨rfl, rfl⟩, h _ _ ⟨_, _, _, rfl⟩⟩ (.inl (PyProof.noPylong_small hs))
end
end Mine
/- R13 -/
namespace Mine
open PySem PySem.W PySem.Calls PyProof.Rows PySem.SeqAt
section
variable {α β γ : Type} {g : Gh} {k : Nat} {env : Env} {wr : List Str} {m : FM} {σ : AH}
/- split at one sign -/
theorem strsFrom_er : ∀ (l : List Str) (t : Tok), (strsFrom t l).map er = l.map fun x => .str x 0
  | [], _ => rfl
  | x :: r, t => by
    show er (.str x t) :: (strsFrom (t + 1) r).map er = _
    rw [strsFrom_er r]; rfl
theorem CK.split {a : List Nat} {c : Nat} {Q : Value → AH → Prop} (hb : a.length ≤ 1000000) (h : ∀ D, Q (.ref D) ((D, .list ((splits c a).map sv)) :: σ)) : CK g k (.builtin "str.split") [sv a, sv [c]] [] Q σ := by
  intro args kw ha hk A B s ok S
  obtain ⟨x, y, rfl, hx, hy⟩ := args2 ha
  obtain ⟨t, rfl⟩ := er_str hx
  obtain ⟨u, rfl⟩ := er_str hy
  cases List.map_eq_nil_iff.mp hk
  have hy1 : ((ss [c]).length == 0) = false := by rw [ss_len]; rfl
  have e := split_is a c
  have hsz : (ss a).length ≤ sizeLine := by rw [ss_len, sizeLine_eq]; omega
  have one : Txt.split (ss a) (ss [c]) = [ss a] → ∀ (t : Tok), (AO.list ((splits c a).map sv)).Is { cls := .type "list", data := .seq [Value.str (ss a) t].toArray } := fun h1 t => by
    refine ⟨_, _, rfl, ?_⟩
    rw [show Txt.split (ss a) (ss [c]) = (splits c a).map ss from e] at h1
    have : (splits c a).map sv = ((splits c a).map ss).map fun x => Value.str x 0 := by rw [List.map_map]; rfl
    rw [this, h1]; rfl
  cases h1 : (decide ((ss a).length < (ss [c]).length) || decide (Builtin.Str.strKind (ss a) < Builtin.Str.strKind (ss [c])))
  · cases hf : (Builtin.Str.occurrences (ss a) (ss [c]) 0 (ss a).length ((ss a).length + 1)).isEmpty
    · have es : Txt.split (ss a) (ss [c]) = Builtin.Str.partsBetween (ss a) (Builtin.Str.occurrences (ss a) (ss [c]) 0 (ss a).length ((ss a).length + 1)) (ss [c]).length := by
        unfold Txt.split; rw [h1, hf]; rfl
      have hn : (Builtin.Str.partsBetween (ss a) (Builtin.Str.occurrences (ss a) (ss [c]) 0 (ss a).length ((ss a).length + 1)) (ss [c]).length).length ≤ sizeLine := by
        have h2 := StrLaws.occ_length_le_len (ss a) (ss [c]) 0 (ss a).length ((ss a).length + 1)
        unfold Builtin.Str.partsBetween
        simp only [List.length_map, List.length_zip, List.length_cons, List.length_append, List.length_nil]
        rw [ss_len] at *
        rw [sizeLine_eq]; omega
      refine call_meets F.slot_str_split (typeIs_str _ _ _) F.entry_str_split (F.args_str_split_2 _ _) (meets_str_split_sep (ss a) (ss [c]) t u h1 hy1 hf hsz hn) ?_
      refine ⟨_, (S.push (ao := .list ((splits c a).map sv)) ⟨_, _, rfl, ?_⟩).tok _ (Nat.lt_of_lt_of_le S.pos (Nat.le_add_right _ _)), h _⟩
      rw [List.toList_toArray, strsFrom_er, ← es]
      rw [show Txt.split (ss a) (ss [c]) = (splits c a).map ss from e, List.map_map]; rfl
    · have es : Txt.split (ss a) (ss [c]) = [ss a] := by unfold Txt.split; rw [h1, hf]; rfl
      exact call_meets F.slot_str_split (typeIs_str _ _ _) F.entry_str_split (F.args_str_split_2 _ _) (meets_str_split_not_found (ss a) (ss [c]) t u h1 hy1 hf) ⟨_, S.push (one es t), h _⟩
  · have es : Txt.split (ss a) (ss [c]) = [ss a] := by unfold Txt.split; rw [h1]; rfl
    exact call_meets F.slot_str_split (typeIs_str _ _ _) F.entry_str_split (F.args_str_split_2 _ _) (meets_str_split_cannot_occur (ss a) (ss [c]) t u h1) ⟨_, S.push (one es t), h _⟩
/- join -/
theorem strs_made : ∀ {its : List Value} {ps : List (List Nat)}, its.map er = ps.map sv → ∃ l : List (Str × Tok), its = strValues l ∧ l.map (·.1) = ps.map ss
  | [], [], _ => ⟨[], rfl, rfl⟩
  | [], _ :: _, h => nomatch h
  | _ :: _, [], h => nomatch h
  | v :: its, p :: ps, h => by
    rw [List.map_cons, List.map_cons] at h
    obtain ⟨h1, h2⟩ := List.cons.inj h
    obtain ⟨t, rfl⟩ := er_str h1
    obtain ⟨l, rfl, h3⟩ := strs_made h2
    exact ⟨(ss p, t) :: l, rfl, by rw [List.map_cons, List.map_cons, h3]⟩
theorem CK.join {a : Addr} {z : List Nat} {ps : List (List Nat)} {n : Nat} {Q : Value → AH → Prop} (hr : Rd g σ a (.list (ps.map sv))) (hB : ∀ p ∈ ps, p.length ≤ n) (hn : ps.length * n + ps.length * z.length ≤ 16777216)
    (h : Q (sv (List.intercalate z ps)) σ) : CK g k (.builtin "str.join") [sv z, .ref a] [] Q σ := by
  intro args kw ha hk A B s ok S
  obtain ⟨x, y, rfl, hx, hy⟩ := args2 ha
  obtain ⟨t, rfl⟩ := er_str hx
  rw [er_ref hy]
  cases List.map_eq_nil_iff.mp hk
  obtain ⟨its, hl, e⟩ := hr.list S
  obtain ⟨l, rfl, el⟩ := strs_made e
  refine wpAny_gain S.pos (SC.join hl el ?_ fun t' k hp => ⟨σ, S.tok _ hp, ?_⟩)
  · unfold JoinOk
    rw [Bool.not_eq_true']
    refine StrLaws.joinFits (B := n) (fun y hy => ?_) (by rw [List.length_map, ss_len]; exact hn)
    obtain ⟨p, hp, rfl⟩ := List.mem_map.mp hy
    rw [ss_len]; exact hB p hp
  · show Q (.str (Txt.join (ss z) (ps.map ss)) 0) σ
    have : Txt.join (ss z) (ps.map ss) = ss (List.intercalate z ps) := by
      show Builtin.Str.glued (ss z) (ps.map ss) = _
      rw [StrLaws.glued_eq_join, join_ss]
    rw [this]; exact h
/- replace: both told by constants -/
theorem W.replaceC {o : Expr} {c : Nat} {z : List Nat} {y1 y2 : Str} {j1 j2 : Nat} {p1 p2 apos pos : Pos} {Q : Value → FM → AH → Prop} (e1 : y1 = ss [c]) (e2 : y2 = ss z) (hne : [c] ≠ z) (hz : z.length ≤ 100)
    (h : WV g k env wr (eval o env) (fun ov m σ => ∃ l, ov = sv l ∧ l.length ≤ 100000 ∧ Q (sv (repl c z l)) m σ) m σ)
    (hbase : attributeBase o "replace" env (eval o env) = eval o env)
    (hfew : ((backTo pos (starEach [.Constant (.str y1) j1 p1, .Constant (.str y2) j2 p2] env)).all (fun x => !x.1) && (backToKw pos (keywordEach [] env)).all (fun x => x.1.isSome)
      && decide (([.Constant (.str y1) j1 p1, .Constant (.str y2) j2 p2] : List Expr).length + ([] : List Keyword).length + (if ([] : List Keyword).isEmpty then 0 else 1) < 30)) = true)
    (hline : (apos.endLine == pos.line) = true) :
    WV g k env wr (eval (.Call (.Attribute o "replace" apos) [.Constant (.str y1) j1 p1, .Constant (.str y2) j2 p2] [] pos) env) Q m σ := by
  subst e1 e2
  intro A B s ok S F
  refine wpAny_Call_method hbase hfew hline (T := "str") PySem.F.plainAttrs_str PySem.F.slot_str_replace PySem.F.type_str_replace (wpAny_mono (h A B s ok S F) ?_ fun _ _ e => e)
  rintro u s1 ⟨m1, σ1, S1, F1, l, hu, hl, hq⟩
  obtain ⟨t, rfl⟩ := er_str hu
  refine ⟨typeIs_str _ _ _, (fun a e => nomatch e), ?_⟩
  refine callWith_of (P := g.K.In) (by rfl) (KP.builtin (g := g) (i := "str.replace")).2 ?_
  refine evalArgs_any (by rfl) (by rfl) ?_
  refine Calls.spliced_cons (Calls.Constant_str (k := j1) (pos := p1) (Calls.spliced_cons (Calls.Constant_str (k := j2) (pos := p2) (Calls.spliced_nil ?_))))
  refine wpAny_evalAll_nil ⟨S1.ok.hK.keeps S1.h0, ?_⟩
  show wpAny _ _ (call (.builtin "str.replace") [.str (ss l) t, .str (ss [c]) s1.toks, .str (ss z) (s1.toks + 1)]) _ _ _
  have hyz : (ss [c] == ss z) = false := by rw [ss_eq]; exact decide_eq_false hne
  have S2 := (S1.tok (s1.toks + 1)).tok (s1.toks + 1 + 1)
  refine wpAny_gain (s := { s1 with toks := s1.toks + 1 + 1 }) (Nat.succ_pos _) (SC.replace (Nat.ne_of_gt S1.pos) (Nat.succ_ne_zero _) (Nat.ne_of_lt (Nat.lt_succ_self _)) hyz ?_ fun t' k hp => ?_)
  · rw [ss_len, ss_len]
    have : (l.length + 1) * z.length ≤ (l.length + 1) * 100 := Nat.mul_le_mul_left _ hz
    omega
  · rw [show Txt.replace (ss l) (ss [c]) (ss z) = ss (repl c z l) from replace_is l z c]
    exact ⟨m1, σ1, S1.tok _ hp, F1, hq⟩
/- index -/
theorem CK.index {a : List Nat} {c i : Nat} {Q : Value → AH → Prop} (hi : a[i]? = some c) (hn : ∀ j, j < i → a[j]? ≠ some c) (h : Q (.int i 0) σ) : CK g k (.builtin "str.index") [sv a, sv [c]] [] Q σ := by
  intro args kw ha hk A B s ok S
  obtain ⟨x, y, rfl, hx, hy⟩ := args2 ha
  obtain ⟨t, rfl⟩ := er_str hx
  obtain ⟨u, rfl⟩ := er_str hy
  cases List.map_eq_nil_iff.mp hk
  rcases StrLaws.occ_head (ss a) (ss [c]) 1 (Nat.le_refl _) with ⟨_, hno⟩ | ⟨j, r, e, hj, hno⟩
  · exact absurd ((StrLaws.subAt_one (ss a) c i).mpr (by simpa using hi)) (hno i)
  · have hj' : a[j]? = some c := by simpa using (StrLaws.subAt_one (ss a) c j).mp hj
    have : j = i := by
      rcases Nat.lt_trichotomy j i with q | q | q
      · exact absurd hj' (hn j q)
      · exact q
      · exact absurd ((StrLaws.subAt_one (ss a) c i).mpr (by simpa using hi)) (hno i q)
    subst this
    exact SC.index e ⟨σ, S.tok _, h⟩
/- max, min, sum -/
theorem ints_made : ∀ {its : List Value} {xs : List Int}, its.map er = xs.map (fun i => .int i 0) → ∃ l : List (Int × Tok), its = l.map (fun p => Value.int p.1 p.2) ∧ l.map (·.1) = xs
  | [], [], _ => ⟨[], rfl, rfl⟩
  | [], _ :: _, h => nomatch h
  | _ :: _, [], h => nomatch h
  | v :: its, p :: ps, h => by
    rw [List.map_cons, List.map_cons] at h
    obtain ⟨h1, h2⟩ := List.cons.inj h
    obtain ⟨t, rfl⟩ := er_int h1
    obtain ⟨l, rfl, h3⟩ := ints_made h2
    exact ⟨(p, t) :: l, rfl, by rw [List.map_cons, h3]⟩
theorem ints_arr {its : List Value} {xs : List Int} (h : its.map er = xs.map (fun i => .int i 0)) : ∃ arr : Array (Int × Tok), its.toArray = intItems arr ∧ arr.toList.map (·.1) = xs := by
  obtain ⟨l, rfl, e⟩ := ints_made h
  exact ⟨l.toArray, by simp [intItems], by simpa using e⟩
theorem CK.maxL {a : Addr} {xs : List Int} {Q : Value → AH → Prop} (hr : Rd g σ a (.list (xs.map fun i => .int i 0))) (hne : xs ≠ []) (h : ∀ M, M ∈ xs → (∀ x ∈ xs, x ≤ M) → Q (.int M 0) σ) : CK g k (.builtin "max") [.ref a] [] Q σ := by
  intro args kw ha hk A B s ok S
  obtain ⟨x, rfl, hx⟩ := args1 ha
  rw [er_ref hx]
  cases List.map_eq_nil_iff.mp hk
  obtain ⟨its, hl, e⟩ := hr.list S
  obtain ⟨arr, e1, e2⟩ := ints_arr e
  rw [e1] at hl
  have hsz : 0 < arr.size := by
    have : arr.size = xs.length := by rw [← e2]; simp
    have := List.length_pos_iff.mpr hne
    omega
  refine wpAny_gain S.pos (max_intList ok.handled hl hsz fun v h' tk hv hk hp => ?_)
  obtain ⟨t, rfl⟩ := intItems_at hv
  obtain ⟨h1, h2⟩ := argBest_gt (numAt arr) (arr.size - 1)
  refine ⟨σ, (S.more hk).tok tk hp, h _ ?_ fun a ha => ?_⟩
  · rw [← e2, numAt_eq]; exact getD_mem (by rw [List.length_map, Array.length_toList]; omega)
  · rw [← e2] at ha
    obtain ⟨j, hj, rfl⟩ := mem_getD ha
    rw [List.length_map, Array.length_toList] at hj
    rw [← numAt_eq]; exact h2 j (by omega)
theorem CK.minL {a : Addr} {xs : List Int} {Q : Value → AH → Prop} (hr : Rd g σ a (.list (xs.map fun i => .int i 0))) (hne : xs ≠ []) (h : ∀ M, M ∈ xs → (∀ x ∈ xs, M ≤ x) → Q (.int M 0) σ) : CK g k (.builtin "min") [.ref a] [] Q σ := by
  intro args kw ha hk A B s ok S
  obtain ⟨x, rfl, hx⟩ := args1 ha
  rw [er_ref hx]
  cases List.map_eq_nil_iff.mp hk
  obtain ⟨its, hl, e⟩ := hr.list S
  obtain ⟨arr, e1, e2⟩ := ints_arr e
  rw [e1] at hl
  have hsz : 0 < arr.size := by
    have : arr.size = xs.length := by rw [← e2]; simp
    have := List.length_pos_iff.mpr hne
    omega
  refine wpAny_gain S.pos (min_intList ok.handled hl hsz fun v h' tk hv hk hp => ?_)
  obtain ⟨t, rfl⟩ := intItems_at hv
  obtain ⟨h1, h2⟩ := argBest_lt (numAt arr) (arr.size - 1)
  refine ⟨σ, (S.more hk).tok tk hp, h _ ?_ fun a ha => ?_⟩
  · rw [← e2, numAt_eq]; exact getD_mem (by rw [List.length_map, Array.length_toList]; omega)
  · rw [← e2] at ha
    obtain ⟨j, hj, rfl⟩ := mem_getD ha
    rw [List.length_map, Array.length_toList] at hj
    rw [← numAt_eq]; exact h2 j (by omega)
theorem CK.sumL {a : Addr} {xs : List Int} {Q : Value → AH → Prop} (hr : Rd g σ a (.list (xs.map fun i => .int i 0))) (h : Q (.int xs.sum 0) σ) : CK g k (.builtin "sum") [.ref a] [] Q σ := by
  intro args kw ha hk A B s ok S
  obtain ⟨x, rfl, hx⟩ := args1 ha
  rw [er_ref hx]
  cases List.map_eq_nil_iff.mp hk
  obtain ⟨its, hl, e⟩ := hr.list S
  obtain ⟨arr, e1, e2⟩ := ints_arr e
  rw [e1] at hl
  refine wpAny_gain S.pos (sum_intListG ok.handled hl fun h' tk t' hk hp => ⟨σ, (S.more hk).tok tk hp, ?_⟩)
  show Q (.int (preSum (numAt arr) arr.size) 0) σ
  rw [preSum_eq, List.take_of_length_le (by simp), e2]; exact h
theorem CK.max2 {a b : Int} {Q : Value → AH → Prop} (h : Q (.int (if b > a then b else a) 0) σ) : CK g k (.builtin "max") [.int a 0, .int b 0] [] Q σ := by
  intro args kw ha hk A B s ok S
  obtain ⟨x, y, rfl, hx, hy⟩ := args2 ha
  obtain ⟨t, rfl⟩ := er_int hx
  obtain ⟨u, rfl⟩ := er_int hy
  cases List.map_eq_nil_iff.mp hk
  refine wpAny_gain S.pos (max_two_ints ok.handled fun h' tk hk hp => ⟨σ, (S.more hk).tok tk hp, ?_⟩)
  split
  · rename_i q; rw [if_pos q] at h; exact h
  · rename_i q; rw [if_neg q] at h; exact h
theorem CK.min2 {a b : Int} {Q : Value → AH → Prop} (h : Q (.int (if b < a then b else a) 0) σ) : CK g k (.builtin "min") [.int a 0, .int b 0] [] Q σ := by
  intro args kw ha hk A B s ok S
  obtain ⟨x, y, rfl, hx, hy⟩ := args2 ha
  obtain ⟨t, rfl⟩ := er_int hx
  obtain ⟨u, rfl⟩ := er_int hy
  cases List.map_eq_nil_iff.mp hk
  refine wpAny_gain S.pos (min_two_ints ok.handled fun h' tk hk hp => ⟨σ, (S.more hk).tok tk hp, ?_⟩)
  split
  · rename_i q; rw [if_pos q] at h; exact h
  · rename_i q; rw [if_neg q] at h; exact h
/- tables of texts -/
theorem W.dict {keys : List (Option Expr)} {values : List Expr} {pos : Pos} {D : List (PyData × PyData)} {Q : Value → FM → AH → Prop} (hD : litPairs keys values = some D) (hs : strKeyed D = true) (hn : (strKeysOf D).Nodup)
    (hall : keys.all (·.isSome) = true) (hl : keys.length = values.length) (h0 : keys ≠ []) (hlen : keys.length ≤ 15)
    (h : ∀ a o, TabObj (strKind g.prog g.w) PyData.str D o → (a == sysModules) = false → Q (.ref a) m ((a, .is o) :: σ)) : WV g k env wr (eval (.Dict keys values pos) env) Q m σ := by
  intro A B s ok S F
  refine wpAny_gain S.pos (Dict_lits_str hD hs hn hall hl h0 hlen fun a o h₁ tk ha ho ht hk hp => ?_)
  have S1 := (S.more hk).tok tk hp
  have hB : B a = none := by
    cases hb : B a with
    | none => rfl
    | some o' => exact absurd (Heap.lt_size (S.keep _ _ hb)) (Nat.not_lt.mpr ha)
  have hoff : a ∉ σ.map Prod.fst := by
    intro hm
    obtain ⟨p, hp, e⟩ := List.mem_map.mp hm
    obtain ⟨_, o', ho', _⟩ := S.own p hp
    rw [e] at ho'
    exact absurd (Heap.lt_size ho') (Nat.not_lt.mpr ha)
  have hfr : o.isFreed = false := by
    obtain ⟨kvs, hd, _⟩ := ht
    obtain ⟨es, n, _, hdd, _⟩ := hd
    exact Obj.isFreed_of_dict hdd
  refine ⟨m, _, S1.cons (ao := .is o) hB hoff ho ⟨rfl, hfr⟩, ?_, h a o ht ?_⟩
  · refine (F.more hk).keeps (fun _ _ _ e => e) (fun _ _ => rfl) fun b hb hB' hm => ?_
    rcases List.mem_cons.mp hm with q | q
    · have q' : b = a := q
      obtain ⟨o', ho'⟩ := F.live hb
      exact absurd (Heap.lt_size ho') (by rw [q']; exact Nat.not_lt.mpr ha)
    · exact F.off hb hB' q
  · rw [beq_eq_false_iff_ne]
    rintro rfl
    obtain ⟨_, _, _, hg, _⟩ := S.ok.hg
    have := Heap.lt_size (S.h0 _ _ hg)
    exact absurd (Nat.lt_of_lt_of_le this ha) (by decide)
theorem CK.get2 {d : Addr} {o : Obj} {D : List (PyData × PyData)} {x y z : List Nat} {Q : Value → AH → Prop} (hd : (d, AO.is o) ∈ σ) (ht : TabObj (strKind g.prog g.w) PyData.str D o) (hs : (d == sysModules) = false)
    (hl : (PySem.Spec.lookup (.str (ss x)) D).getD (.str (ss y)) = .str (ss z)) (h : Q (sv z) σ) : CK g k (.builtin "dict.get") [.ref d, sv x, sv y] [] Q σ := by
  intro args kw ha hk A B s ok S
  obtain ⟨p, q, r, rfl, h1, h2, h3⟩ := args3 ha
  rw [er_ref h1]
  obtain ⟨t, rfl⟩ := er_str h2
  obtain ⟨u, rfl⟩ := er_str h3
  cases List.map_eq_nil_iff.mp hk
  obtain ⟨o', ho, rfl, _⟩ := S.get hd
  obtain ⟨kvs, hdd, hf⟩ := ht
  refine call_get2_strTab (TabAt.ofObj hs ho hdd hf) (PyProof.V.Flat.str _ _) fun v hv => ?_
  rw [hl] at hv
  obtain ⟨t', rfl⟩ := hv.str_inv
  exact ⟨σ, S.tok _, h⟩
end
end Mine
/- RX -/
namespace Mine
open PySem PySem.W PySem.Calls PyProof.Rows PySem.Builtin PySem.Builtin.Re
namespace FX
theorem plainAttrs : PlainAttrs "re.Pattern" :=
  ⟨⟨"object.__getattribute__", by rw [typeLookup_type, builtinLookup_eq_fast]; kernel_rfl, by decide +kernel⟩, by rw [typeLookup_type, builtinLookup_eq_fast]; kernel_rfl⟩
theorem slot : Slot "re.Pattern" "search" "re.Pattern.search" :=
  .of (owner := "re.Pattern") (n := "search") (by rw [typeLookup_type, builtinLookup_eq_fast]; kernel_rfl) (by decide +kernel) (by decide +kernel) (by decide +kernel)
    (by first | exact .inl (by decide +kernel) | exact .inr (by decide +kernel)) (by rw [isSubtype_type]; kernel_rfl)
theorem type : typeOf (.builtin "re.Pattern.search") = pure (.type "method_descriptor") := by show builtinType _ = _; rw [builtinType_eq_fast]; kernel_rfl
theorem entry : entryFor table "re.Pattern.search" = some Builtin.«re.Pattern.search» := entryFor_of_tree (by kernel_rfl)
theorem args (a b : Value) : argsOk "re.Pattern.search" ⟨[a, b], []⟩ := by unfold argsOk; kernel_rfl
end FX
/-- no sign that the set tells -/
noncomputable def Clean (code : Array Nat) (x : List Nat) : Prop := ∀ c ∈ x, ∀ seen, ∃ seen', Sre.inSet code c code.size 5 true seen = .ok (false, seen')
theorem admitted_none {m : Sre.M} (h : ∀ c ∈ m.text.toList, ∀ seen, ∃ seen', Sre.inSet m.code c m.code.size 5 true seen = .ok (false, seen')) (hl : m.lim ≤ m.text.size) :
    ∀ (fuel s : Nat) (seen : Sre.Seen), ∃ seen', Sre.M.admitted m fuel s seen = .ok (none, seen')
  | 0, s, seen => ⟨seen, rfl⟩
  | fuel + 1, s, seen => by
    unfold Sre.M.admitted
    split
    · exact ⟨seen, rfl⟩
    · rename_i hs
      have hlt : s < m.text.size := by omega
      have hg : m.text.getD s 0 = m.text[s] := by rw [Array.getD_eq_getD_getElem?, Array.getElem?_eq_getElem hlt]; rfl
      obtain ⟨seen1, e⟩ := h (m.text[s]) (by simp) seen
      rw [hg, e]
      exact admitted_none h hl fuel (s + 1) seen1
theorem search_fails {code : Array Nat} {x : List Nat} (h : Clean code x) (hf : ∀ m : Sre.M, m.code = code → m.hasFirstSet = true) :
    (Sre.forSearch code x.toArray 0 0 x.toArray.size false).answer = some false ∧ (Sre.forSearch code x.toArray 0 0 x.toArray.size false).frames = [] ∧ (Sre.forSearch code x.toArray 0 0 x.toArray.size false).outcome = none := by
  have key : ∀ m : Sre.M, m.code = code → m.text = x.toArray → m.lim = x.toArray.size → m.frames = [] → m.outcome = none → (m.attemptFrom 0 true).answer = some false ∧ (m.attemptFrom 0 true).frames = [] ∧ (m.attemptFrom 0 true).outcome = none := by
    intro m e1 e2 e3 e4 e5
    obtain ⟨seen', e⟩ := admitted_none (m := m) (by rw [e1, e2]; intro c hc; exact h c (by simpa using hc)) (by rw [e2, e3]; exact Nat.le_refl _) (m.lim + 1 - 0) 0 m.seen
    unfold Sre.M.attemptFrom
    rw [hf m e1, e]
    exact ⟨rfl, e4, e5⟩
  unfold Sre.forSearch
  dsimp only
  split
  · exact ⟨rfl, rfl, rfl⟩
  · exact key _ rfl rfl rfl rfl rfl
theorem runFor_done {m : Sre.M} (h1 : m.answer = some false) (h2 : m.frames = []) (h3 : m.outcome = none) : ∀ n, (m.runFor (n + 1)).outcome = some .failed := by
  intro n
  have hs : m.step = { m with outcome := some .failed } := by
    unfold Sre.M.step
    rw [h3]
    simp only [Option.isSome_none, Bool.false_eq_true, if_false]
    rw [h1, h2]; rfl
  have hd : ∀ (k : Nat) (m' : Sre.M), m'.outcome = some .failed → (m'.runFor k).outcome = some .failed := by
    intro k
    cases k with
    | zero => intro m' e; exact e
    | succ k => intro m' e; unfold Sre.M.runFor; rw [e]; exact e
  unfold Sre.M.runFor
  rw [h3]
  simp only [Option.isSome_none, Bool.false_eq_true, if_false]
  rw [hs]
  exact hd n _ rfl
theorem runFor_some {m : Sre.M} (h1 : m.answer = some false) (h2 : m.frames = []) (h3 : m.outcome = none) : (m.runFor reTurnSteps).outcome = some .failed := by
  have : ∃ n, reTurnSteps = n + 1 := ⟨reTurnSteps - 1, by decide⟩
  obtain ⟨n, e⟩ := this
  rw [e]; exact runFor_done h1 h2 h3 n
theorem reDrive_done {m : Sre.M} (h : (m.runFor reTurnSteps).outcome = some .failed) (n : Nat) : reDrive (n + 1) m = Pure.pure (m.runFor reTurnSteps) := by
  unfold reDrive
  dsimp only
  rw [h]; rfl
theorem wp_rules {M : Model} {A : Around} {E : Value → Shared → Prop} {s : Shared} (seen : Nat → Bool) (name : Nat → String) : ∀ (l : List Nat) (Q : PUnit → Shared → Prop), Q ⟨⟩ s →
    wpAny M A (forIn l PUnit.unit fun i r => if seen i = true then (do rule (name i); Pure.pure (ForInStep.yield PUnit.unit)) else Pure.pure (ForInStep.yield PUnit.unit)) Q E s
  | [], Q, h => by rw [List.forIn_nil]; exact wpAny_pure h
  | i :: l, Q, h => by
    rw [List.forIn_cons]
    refine wpAny_bind ?_
    split
    · exact wpAny_bind (wpAny_rule (wpAny_pure (wp_rules seen name l Q h)))
    · exact wpAny_pure (wp_rules seen name l Q h)
theorem wp_runToEnd {M : Model} {A : Around} {E : Value → Shared → Prop} {s : Shared} {m : Sre.M} {Q : Option Sre.M → Shared → Prop} (h1 : m.answer = some false) (h2 : m.frames = []) (h3 : m.outcome = none) (q : Q none s) : wpAny M A (reRunToEnd m) Q E s := by
  have e := runFor_some h1 h2 h3
  unfold reRunToEnd
  have e2 : (2 : Nat) ^ 64 = (2 ^ 64 - 1) + 1 := by decide
  rw [e2, reDrive_done e]
  refine wpAny_bind (wpAny_pure ?_)
  refine wpAny_bind (wp_rules _ _ _ _ ?_)
  rw [e]
  exact wpAny_pure q
noncomputable def codeOf (its : Array Value) : Array Nat := (its.map reRawOf).map (·.toNat)
theorem gives_search {x : List Nat} (hx : x.length ≤ 1000000) {t u1 u2 : Tok} {p ct : Addr} {its : Array Value} {n : Nat} {pat : Str} (hc : Clean (codeOf its) x) (hf : ∀ m : Sre.M, m.code = codeOf its → m.hasFirstSet = true) {prog : Program} {w : World} {A : Around} {E : Value → Shared → Prop} {s : Shared} {Q : Value → Shared → Prop}
    (hp : s.heap.get? p = some { cls := .type "re.Pattern", data := .fields #[.str pat u1, .int 32 u2, .int 0 0, .none, .none, .ref ct, .int 0 0] })
    (ht : s.heap.get? ct = some { cls := .type "tuple", data := .seq its n }) (h : Q .none s) :
    wpAny (model prog w) A (call (.builtin "re.Pattern.search") [.ref p, .str (ss x) t]) Q E s := by
  refine wpAny_call_entry FX.slot ⟨_, hp, rfl⟩ FX.entry ?_ (FX.args _ _)
  unfold Builtin.«re.Pattern.search»
  have T : ∀ Q' : ReTarget → Shared → Prop, Q' { pattern := .ref p, string := .str (ss x) t, code := codeOf its, text := x.toArray, kind := 0, groups := 0, pos := 0, lim := x.toArray.size } s →
      wpAny (model prog w) A.in1 (reTarget "re.Pattern.search" "search" ⟨[.ref p, .str (ss x) t], []⟩) Q' (fun e s' => E e s') s := by
    intro Q' q
    have e : reNamed "re.Pattern.search" "search" ["string", "pos", "endpos"] 1 [.str (ss x) t] [] = Pure.pure [some (.str (ss x) t), none, none] := rfl
    unfold reTarget
    show wpAny _ _ (reNamed "re.Pattern.search" "search" ["string", "pos", "endpos"] 1 [.str (ss x) t] [] >>= _) _ _ _
    refine wpAny_bind (wpAny_of_eq e ?_)
    refine wpAny_bind (wpAny_pure ?_)
    refine wpAny_bind (wpAny_pure ?_)
    refine wpAny_bind ?_
    unfold fieldsOf
    refine wpAny_bind (wpAny_load hp ?_)
    refine wpAny_pure ?_
    refine wpAny_bind (m := reTextOf _) (wpAny_pure ?_)
    refine wpAny_bind (m := reNoCollectionInside _ _) (wpAny_pure ?_)
    refine wpAny_bind (m := reRawItems _) ?_
    unfold reRawItems
    refine wpAny_bind (wpAny_seqItems ht rfl (wpAny_pure (wpAny_pure ?_)))
    have e1 : min ((0 : Int).toNat) x.toArray.size = 0 := by simp
    have e2 : min ((2 ^ 63 - 1 : Int).toNat) x.toArray.size = x.toArray.size := Nat.min_eq_right (by simp only [List.size_toArray]; omega)
    have e3 : (⟨.ref p, .str (ss x) t, codeOf its, x.toArray, 0, 0, min ((0 : Int).toNat) x.toArray.size, min ((2 ^ 63 - 1 : Int).toNat) x.toArray.size⟩ : ReTarget) = ⟨.ref p, .str (ss x) t, codeOf its, x.toArray, 0, 0, 0, x.toArray.size⟩ := by rw [e1, e2]
    rw [← e3] at q
    exact q
  refine wpAny_bind (T _ ?_)
  obtain ⟨h1, h2, h3⟩ := search_fails hc hf
  unfold reAnswer
  refine wpAny_bind (wp_runToEnd h1 h2 h3 ?_)
  exact wpAny_pure ⟨_, rfl, h⟩
noncomputable def nameIts : Array Value := #[.int 14 0, .int 10 0, .int 4 0, .int 1 0, .int 1 0, .int 22 0, .int 0 0, .int 31 0, .int 16 0, .int 127 0, .int 0 0, .int 13 0, .int 7 0, .int 22 0, .int 0 0, .int 31 0, .int 16 0, .int 127 0, .int 0 0, .int 1 0]
noncomputable def nameCode : Array Nat := #[14, 10, 4, 1, 1, 22, 0, 31, 16, 127, 0, 13, 7, 22, 0, 31, 16, 127, 0, 1]
theorem nameCode_of : codeOf nameIts = nameCode := by simp [codeOf, nameIts, nameCode, reRawOf]
noncomputable def valIts : Array Value := #[.int 14 0, .int 14 0, .int 4 0, .int 1 0, .int 1 0, .int 9 0, .int 4294966783 0, .int 0 0, .int 0 0, .int 2147483648 0, .int 0 0, .int 0 0, .int 0 0, .int 0 0, .int 0 0, .int 13 0, .int 11 0, .int 9 0, .int 4294966783 0, .int 0 0, .int 0 0, .int 2147483648 0, .int 0 0, .int 0 0, .int 0 0, .int 0 0, .int 0 0, .int 1 0]
noncomputable def valCode : Array Nat := #[14, 14, 4, 1, 1, 9, 4294966783, 0, 0, 2147483648, 0, 0, 0, 0, 0, 13, 11, 9, 4294966783, 0, 0, 2147483648, 0, 0, 0, 0, 0, 1]
theorem valCode_of : codeOf valIts = valCode := by simp [codeOf, valIts, valCode, reRawOf]
theorem inSet_name (c : Nat) (h1 : 31 < c) (h2 : c ≠ 127) (seen : Sre.Seen) : ∃ seen', Sre.inSet nameCode c nameCode.size 5 true seen = .ok (false, seen') := by
  have e1 : ∀ s : Sre.Seen, Sre.inSet nameCode c 20 5 true s = if 0 ≤ c && c ≤ 31 then .ok (true, s.add 22) else Sre.inSet nameCode c 19 8 true (s.add 22) := fun _ => rfl
  have e2 : ∀ s : Sre.Seen, Sre.inSet nameCode c 19 8 true s = if c == 127 then .ok (true, s.add 16) else Sre.inSet nameCode c 18 10 true (s.add 16) := fun _ => rfl
  have e3 : ∀ s : Sre.Seen, Sre.inSet nameCode c 18 10 true s = .ok (false, s.add 0) := fun _ => rfl
  have b1 : (decide (0 ≤ c) && decide (c ≤ 31)) = false := by rw [decide_eq_false (Nat.not_le.mpr h1), Bool.and_false]
  have b2 : (c == 127) = false := by rw [beq_eq_false_iff_ne]; exact h2
  refine ⟨((seen.add 22).add 16).add 0, (e1 seen).trans ?_⟩
  rw [b1, if_neg Bool.false_ne_true, e2, b2, if_neg Bool.false_ne_true]
  exact e3 _
theorem inSet_val (c : Nat) (h1 : 31 < c) (h2 : c < 127) (seen : Sre.Seen) : ∃ seen', Sre.inSet valCode c valCode.size 5 true seen = .ok (false, seen') := by
  have e1 : ∀ s : Sre.Seen, Sre.inSet valCode c 28 5 true s = if c < 256 && (valCode.getD (5 + (1 + c / 32)) 0).testBit (c % 32) then .ok (true, s.add 9) else Sre.inSet valCode c 27 14 true (s.add 9) := fun _ => rfl
  have e3 : ∀ s : Sre.Seen, Sre.inSet valCode c 27 14 true s = .ok (false, s.add 0) := fun _ => rfl
  have hr : (decide (c < 256) && (valCode.getD (5 + (1 + c / 32)) 0).testBit (c % 32)) = false := by
    have key : ∀ c : Fin 127, 31 < c.val → (valCode.getD (5 + (1 + c.val / 32)) 0).testBit (c.val % 32) = false := by decide +kernel
    rw [key ⟨c, h2⟩ h1, Bool.and_false]
  refine ⟨(seen.add 9).add 0, (e1 seen).trans ?_⟩
  rw [hr, if_neg Bool.false_ne_true]
  exact e3 _
noncomputable def Plain (x : List Nat) : Prop := ∀ c ∈ x, 31 < c ∧ c < 127
theorem clean_name {x : List Nat} (h : Plain x) : Clean (codeOf nameIts) x := fun c hc seen => by
  rw [nameCode_of]; exact inSet_name c (h c hc).1 (Nat.ne_of_lt (h c hc).2) seen
theorem clean_val {x : List Nat} (h : Plain x) : Clean (codeOf valIts) x := fun c hc seen => by
  rw [valCode_of]; exact inSet_val c (h c hc).1 (h c hc).2 seen
theorem first_name (m : Sre.M) (e : m.code = codeOf nameIts) : m.hasFirstSet = true := by
  unfold Sre.M.hasFirstSet; rw [e, nameCode_of]; rfl
theorem first_val (m : Sre.M) (e : m.code = codeOf valIts) : m.hasFirstSet = true := by
  unfold Sre.M.hasFirstSet; rw [e, valCode_of]; rfl
theorem CK.search {g : Gh} {k : Nat} {σ : AH} {x : List Nat} (hx : x.length ≤ 1000000) {u1 u2 : Tok} {p ct : Addr} {its : Array Value} {n : Nat} {pat : Str} (hc : Clean (codeOf its) x) (hf : ∀ m : Sre.M, m.code = codeOf its → m.hasFirstSet = true) {Q : Value → AH → Prop}
    (hp : g.K.lookup p = some { cls := .type "re.Pattern", data := .fields #[.str pat u1, .int 32 u2, .int 0 0, .none, .none, .ref ct, .int 0 0] })
    (ht : g.K.lookup ct = some { cls := .type "tuple", data := .seq its n }) (h : Q .none σ) : CK g k (.builtin "re.Pattern.search") [.ref p, sv x] [] Q σ := by
  intro args kw ha hk A B s ok S
  obtain ⟨a, b, rfl, h1, h2⟩ := args2 ha
  rw [er_ref h1]
  obtain ⟨t, rfl⟩ := er_str h2
  cases List.map_eq_nil_iff.mp hk
  exact gives_search hx hc hf (S.h0 _ _ (S.ok.hK _ _ hp)) (S.h0 _ _ (S.ok.hK _ _ ht)) ⟨σ, S, h⟩
theorem TyIs.pat {g : Gh} {σ : AH} {p : Addr} {fs : Array Value} (hp : g.K.lookup p = some { cls := .type "re.Pattern", data := .fields fs }) : TyIs g σ (.ref p) "re.Pattern" := by
  intro B s u S hu
  rw [er_ref hu]
  have := S.h0 _ _ (S.ok.hK _ _ hp)
  exact ⟨⟨_, this, rfl⟩, fun b e => by cases e; exact ⟨_, this, rfl⟩⟩
end Mine
/- RC -/
namespace Mine
open PySem PySem.W PySem.Calls PyProof.Rows PySem.Builtin PySem.Builtin.ObjectAttr
section
variable {α β γ : Type} {g : Gh} {k : Nat} {env : Env} {wr : List Str} {m : FM} {σ : AH}
/-- an object of a class, whose dict has the one attribute -/
structure Ins (σ : AH) (x dx C : Addr) (name : Str) (v : Value) : Prop where
  obj : (x, AO.is (instObj C dx)) ∈ σ
  dic : (dx, AO.attr name v) ∈ σ
theorem Ins.at_ {B : Base} {s : Shared} {x dx C : Addr} {name : Str} {v : Value} (I : Ins σ x dx C name v) (S : SS g B σ s) : ∃ h t u n, s.heap.get? dx = some { cls := .type "dict", data := .dict #[⟨h, .str name t, u⟩] n } ∧ er u = v ∧
    InstAt s.heap x (instObj C dx) C (some { cls := .type "dict", data := .dict #[⟨h, .str name t, u⟩] n }) := by
  obtain ⟨o, ho, rfl, _⟩ := S.get I.obj
  obtain ⟨o', ho', h, t, u, n, rfl, e⟩ := S.get I.dic
  exact ⟨h, t, u, n, ho', e, ho, rfl, rfl, ho'⟩
theorem Ins.up {σ' : AH} (hs : σ.Sublist σ') {x dx C : Addr} {name : Str} {v : Value} (I : Ins σ x dx C name v) : Ins σ' x dx C name v := ⟨hs.subset I.obj, hs.subset I.dic⟩
/- attributes -/
noncomputable def GA (g : Gh) (k : Nat) (o : Value) (name : Str) (Q : Value → AH → Prop) (σ : AH) : Prop := ∀ u, er u = o → CV g k (getAttr u name true) Q σ
theorem W.attr {n name : Str} {np pos : Pos} {Q : Value → FM → AH → Prop} (h : WV g k env wr (eval (.Name n np) env) (fun o m σ => GA g k o name (fun v σ => Q v m σ) σ) m σ) : WV g k env wr (eval (.Attribute (.Name n np) name pos) env) Q m σ := by
  intro A B s ok S F
  refine Attribute_name (wpAny_mono (h A B s ok S F) ?_ fun _ _ e => e)
  rintro u s1 ⟨m1, σ1, S1, F1, h1⟩
  exact W.of_C (h1 u rfl) A B s1 ok S1 F1
theorem GA.own {x dx C : Addr} {name : Str} {d : Addr} {Q : Value → AH → Prop} (I : Ins σ x dx C name (.ref d)) (hh : hasDictIn g.K C = true) (ha : findIn g.K (.ref C) name = some none)
    (hga : findIn g.K (.ref C) "__getattribute__" = some (some (.builtin "object.__getattribute__"))) (h : Q (.ref d) σ) : GA g k (.ref x) name Q σ := by
  intro u hu A B s ok S
  rw [er_ref hu]
  obtain ⟨hh', t, v, n, hd, e, J⟩ := I.at_ S
  have hv := er_ref e
  subst hv
  refine get_value (S.ok.hK.keeps S.h0) J hga (v := .ref d) ?_ rfl ⟨σ, S.tok _, h⟩
  refine findObj_own hh ha rfl ?_
  unfold lookIn
  simp [Value.isStr]
/- methods -/
theorem W.methFn {o : Expr} {name : Str} {apos pos : Pos} {es : List Expr} {kws : List Keyword} {x dx C f : Addr} {an : Str} {av : Value} {Q : Value → FM → AH → Prop}
    (hga : findIn g.K (.ref C) "__getattribute__" = some (some (.builtin "object.__getattribute__"))) (hk : findIn g.K (.ref C) "__getattr__" = some none)
    (hf : findIn g.K (.ref C) name = some (some (.ref f))) (ht : typeIn g.K (.ref f) = some (.type "function")) (hn : (an == name) = false) (hp : KP g (.ref f))
    (h : WV g k env wr (eval o env) (fun ov m σ => ov = .ref x ∧ Ins σ x dx C an av ∧ WA g k env wr pos es (fun vs m σ => WK g k env wr pos kws (fun ks m σ => CK g k (.ref f) (.ref x :: vs) ks (fun r σ => Q r m σ) σ) m σ) m σ) m σ)
    (hbase : attributeBase o name env (eval o env) = eval o env)
    (hplain : (starEach es env).any (·.1) = false) (hkw : kws.all (·.arg.isSome) = true)
    (hfew : methodCallForm (es.length + kws.length) (backTo pos (starEach es env)) (backToKw pos (keywordEach kws env)) = true)
    (hline : (apos.endLine == pos.line) = true) :
    WV g k env wr (eval (.Call (.Attribute o name apos) es kws pos) env) Q m σ := by
  intro A B s ok S F
  rw [arm_eval_Call, hbase]
  refine wpAny_bind (wpAny_mono (h A B s ok S F) ?_ fun _ _ e => e)
  rintro u s1 ⟨m1, σ1, S1, F1, hu, I, h1⟩
  rw [er_ref hu]
  refine wpAny_bind (wpAny_standAt ?_)
  obtain ⟨hh', t, v, n, hd, e, J⟩ := I.at_ S1
  have hpos : methodCallPos true o env apos pos = Pure.pure pos := by unfold methodCallPos; simp [hline]
  unfold methodCall
  rw [hfew]
  have hs : shadowIn (some { cls := .type "dict", data := .dict #[⟨hh', .str an t, v⟩] n }) name = some false := by
    unfold shadowIn lookIn
    simp [Value.isStr, hn, DictEntry.refKey]
  refine wpAny_bind (wpAny_holding (method_fn (S1.ok.hK.keeps S1.h0) J hga hk hf ht hs ?_))
  exact wpAny_bind (wpAny_of_eq hpos (W.callWithKw (first := [.ref x]) hp h1 hplain hkw A B s1 ok S1 F1))
theorem wt_make (C : Addr) : (Code.builtin "type.__call__" ⟨[.ref C], []⟩).weight = 1 := by first | rfl | kernel_rfl
theorem un_make (C : Addr) : (Code.builtin "type.__call__" ⟨[.ref C], []⟩).cUnits ≤ 9 := by first | decide | exact Nat.le_of_ble_eq_true rfl
theorem OkA.make {A : Around} {C : Addr} (h : OkA (k + 1) A) : OkA k (A.under (.builtin "type.__call__" ⟨[.ref C], []⟩)) := by
  refine ⟨h.handled, ?_, ?_⟩
  · show A.depth + (Code.builtin "type.__call__" ⟨[.ref C], []⟩).weight + k ≤ 800
    rw [wt_make]; have := h.depth; omega
  · show A.units + (Code.builtin "type.__call__" ⟨[.ref C], []⟩).cUnits + 10 * k ≤ 9000
    have := un_make C; have := h.units; omega
theorem CK.make {C fI : Addr} {Q : Value → AH → Prop} (hm : makesIn g.K C = true) (hi : findIn g.K (.ref C) "__init__" = some (some (.ref fI))) (hf : typeIn g.K (.ref fI) = some (.type "function"))
    (h : ∀ x dx, CKc g k (.ref fI) [.ref x] [] (fun v σ => v = .none ∧ Q (.ref x) σ) ((x, .is (instObj C dx)) :: (dx, .is emptyDict) :: σ)) : CK g (k + 1) (.ref C) [] [] Q σ := by
  intro args kw ha hk A B s ok S
  cases List.map_eq_nil_iff.mp ha
  cases List.map_eq_nil_iff.mp hk
  have X := S.ok.hK.keeps S.h0
  obtain ⟨hp, gg, d, t, os⟩ := s
  have S1 := S.push (o := emptyDict) (ao := .is emptyDict) ⟨rfl, rfl⟩
  have S2 := S1.push (o := instObj C hp.objs.size) (ao := .is (instObj C hp.objs.size)) ⟨rfl, rfl⟩
  have sz : (hp.push emptyDict).objs.size = hp.objs.size + 1 := Heap.size_push ..
  dsimp only at S2
  rw [sz] at S2
  refine wpAny_call (make_core (makes_of X hm) (looks_findIn X hi) (fun self => bind_fn X self hf) (.inl rfl) ?_)
  refine codeAny_mono (h (hp.objs.size + 1) hp.objs.size [.ref (hp.objs.size + 1)] [] rfl rfl _ B _ ok.make S2) ?_
  rintro r s' h'
  cases r with
  | error e => exact h'.elim
  | ok f =>
    cases f with
    | ret v =>
      obtain ⟨σ', S', hv, q⟩ := h'
      exact ⟨er_none hv, σ', S', q⟩
    | next => exact h'.elim
    | brk => exact h'.elim
    | cont => exact h'.elim
/- storing the first attribute -/
theorem osa_first {prog : Program} {w : World} {A : Around} {R : Result → Shared → Prop} {s : Shared} {K : Frag} {x C dx : Addr} {name : Str} {tk : Tok} {v : Value} (X : K.In s.heap) (hx : s.heap.get? x = some (instObj C dx)) (hd : s.heap.get? dx = some emptyDict)
    (hp : plainOver K C = true) (ht : takerIn K C name = some none) (hh : (clsIn K C).any (·.hasDict) = true)
    (h : ∀ h' o', h'.get? dx = some o' → (∃ hs t n, o' = { cls := .type "dict", data := .dict #[⟨hs, .str name t, v⟩] n }) → Heap.ExtBut dx s.heap h' → R (.ok (.ret .none)) { s with heap := h', toks := s.toks + 1 }) :
    codeAny (model prog w) A (.call (.builtin "object.__setattr__") ⟨[.ref x, .str name tk, v], []⟩) R s := by
  have I : InstAt s.heap x (instObj C dx) C (some emptyDict) := ⟨hx, rfl, rfl, hd⟩
  refine osa_open X I hp ht fun b => ?_
  obtain ⟨cd, hc, hd'⟩ := W.any_some hh
  have e : ∃ hs t n, Obj.putName name (PyData.keyHash w.params name) (.str name s.toks) v emptyDict = { cls := .type "dict", data := .dict #[⟨hs, .str name t, v⟩] n } := ⟨_, _, _, rfl⟩
  obtain ⟨hs', t', n', e⟩ := e
  have D' : (s.heap.update dx (Obj.putName name (PyData.keyHash w.params name) (.str name s.toks) v)).get? dx = some { cls := .type "dict", data := .dict #[⟨hs', .str name t', v⟩] n' } := by
    rw [← e]; exact Heap.get?_update_self _ hd rfl
  refine wpAny_bind (wpAny_pure (wpAny_bind (wpAny_bind (wpAny_loadPart hx (wpAny_bind ((looks_clsIn X hc).here ?_))))))
  rw [hd']
  refine wpAny_pure (a := some dx) (wpAny_bind (wpAny_pure (wpAny_bind ?_)))
  unfold nsSet
  refine wpAny_bind (wpAny_bind (wpAny_askSetting (wpAny_pure (wpAny_bind (wpAny_mkText (wpAny_bind (wpAny_loadPart hd ?_)))))))
  dsimp only
  have c : (!(#[] : Array DictEntry).any (·.key.isStr name) && (#[] : Array DictEntry).any (·.refKey)) = false := by simp
  rw [aRefKeyMayBeTheName_at, c]
  refine wpAny_updatePart hd ?_
  refine wpAny_bind (wpAny_lookBehind D' (pastItsLine_dict (by simp [sizeLine_eq])) ?_)
  exact wpAny_pure (h _ _ D' ⟨_, _, _, rfl⟩ (Heap.SameBut.update ..).extBut)
theorem set_first {prog : Program} {w : World} {A : Around} {E : Value → Shared → Prop} {s : Shared} {K : Frag} {x C dx : Addr} {name : Str} {v : Value} {Q : Unit → Shared → Prop} (X : K.In s.heap) (hx : s.heap.get? x = some (instObj C dx)) (hd : s.heap.get? dx = some emptyDict)
    (hs : findIn K (.ref C) "__setattr__" = some (some (.builtin "object.__setattr__"))) (hp : plainOver K C = true) (ht : takerIn K C name = some none) (hh : (clsIn K C).any (·.hasDict) = true)
    (h : ∀ h' o', h'.get? dx = some o' → (∃ hs t n, o' = { cls := .type "dict", data := .dict #[⟨hs, .str name t, v⟩] n }) → Heap.ExtBut dx s.heap h' → Q () { s with heap := h', toks := s.toks + 2 }) :
    wpAny (model prog w) A (setAttr (.ref x) name v) Q E s :=
  set_plain (ox := instObj C dx) (od := some emptyDict) X ⟨hx, rfl, rfl, hd⟩ hs (osa_first (s := { s with toks := s.toks + 1 }) X hx hd hp ht hh h)
theorem WX.setAttr {n name : Str} {np pos' pos : Pos} {value : Expr} {rest : List Stmt} {x C dx : Addr} {i : Nat} {Q : Flow → FM → AH → Prop}
    (hs : findIn g.K (.ref C) "__setattr__" = some (some (.builtin "object.__setattr__"))) (hp : plainOver g.K C = true) (ht : takerIn g.K C name = some none) (hh : (clsIn g.K C).any (·.hasDict) = true)
    (h : WV g k env wr (eval value env) (fun v m σ => WV g k env wr (eval (.Name n np) env) (fun o m σ => o = .ref x ∧ (x, AO.is (instObj C dx)) ∈ σ ∧ σ[i]? = some (dx, .is emptyDict) ∧ WX g k env wr rest Q m (σ.set i (dx, .attr name v))) m σ) m σ)
    (hsw : swapsWith value (some (.Attribute (.Name n np) name pos')) pos.line env = Pure.pure false) :
    WX g k env wr (.Assign [.Attribute (.Name n np) name pos'] value pos :: rest) Q m σ := by
  refine WX.cons fun A B s ok S F => plainObj_wpAny_Assign_Attribute (wpAny_mono (h A B s ok S F) ?_ fun _ _ e => e) hsw
  rintro v s1 ⟨m1, σ1, S1, F1, h1⟩
  refine wpAny_mono (h1 A B s1 ok S1 F1) ?_ fun _ _ e => e
  rintro u s2 ⟨m2, σ2, S2, F2, hu, hx, hi, h2⟩
  rw [er_ref hu]
  refine wpAny_mono (W.of_C (env := env) (wr := wr) (m := m2) (t := PySem.setAttr (.ref x) name v) (Q := fun _ m σ => WX g k env wr rest Q m σ) ?_ A B s2 ok S2 F2) (fun _ _ h => h) fun _ _ e => e
  intro A' B' s' ok' S'
  obtain ⟨o1, ho1, rfl, _⟩ := S'.get hx
  obtain ⟨o2, ho2, rfl, _⟩ := S'.get (List.mem_of_getElem? hi)
  refine set_first (S'.ok.hK.keeps S'.h0) ho1 ho2 hs hp ht hh fun h' o' ho' ⟨hs', t', n', e⟩ hx' => ?_
  subst e
  exact ⟨_, (S'.change (ao' := .attr name (er v)) hi ho' hx' ⟨_, _, _, _, rfl, rfl⟩).tok _, h2⟩
end
end Mine
/- RD -/
namespace Mine
open PySem PySem.W PySem.Calls PyProof.Rows PySem.Builtin
section
variable {α β γ : Type} {g : Gh} {k : Nat} {env : Env} {wr : List Str} {m : FM} {σ : AH}
theorem W.and2 {e1 e2 : Expr} {pos : Pos} {Q : Value → FM → AH → Prop}
    (h : WV g k env wr (eval e1 env) (fun v m σ => TR g k v (fun c σ => if c then WV g k env wr (eval e2 env) Q m σ else Q v m σ) σ) m σ) : WV g k env wr (eval (.BoolOp .And [e1, e2] pos) env) Q m σ := by
  intro A B s ok S F
  refine BoolOp_and (wpAny_mono (h A B s ok S F) ?_ fun _ _ e => e)
  rintro v s1 ⟨m1, σ1, S1, F1, h1⟩
  refine wpAny_mono (W.of_C (env := env) (wr := wr) (m := m1) (Q := fun c m σ => m = m1 ∧ (if c then WV g k env wr (eval e2 env) Q m σ else Q (er v) m σ)) ((h1 v rfl).mono fun _ _ h => ⟨rfl, h⟩) A B s1 ok S1 F1) ?_ fun _ _ e => e
  rintro c s2 ⟨m2, σ2, S2, F2, rfl, h2⟩
  cases c with
  | true => exact BoolOp_one (h2 A B s2 ok S2 F2)
  | false => exact ⟨m2, σ2, S2, F2, h2⟩
theorem WP.some {e : Expr} {Q : Value → FM → AH → Prop} (h : WV g k env wr (eval e env) Q m σ) : WP g k env wr (Option.some e) Q m σ := h
theorem WP.none {Q : Value → FM → AH → Prop} (h : Q .none m σ) : WP g k env wr Option.none Q m σ := h
theorem W.neg {e : Expr} {pos : Pos} {i : Int} {Q : Value → FM → AH → Prop} (h : WV g k env wr (eval e env) (fun v m σ => v = .int i 0 ∧ Q (.int (-i) 0) m σ) m σ) : WV g k env wr (eval (.UnaryOp .USub e pos) env) Q m σ := by
  intro A B s ok S F
  refine wpAny_UnaryOp (wpAny_mono (h A B s ok S F) ?_ fun _ _ e => e)
  rintro v s1 ⟨m1, σ1, S1, F1, hv, h1⟩
  obtain ⟨t, rfl⟩ := er_int hv
  exact P.neg_int ⟨m1, σ1, S1.tok _, F1, h1⟩
theorem W.negC {i : Int} {j : Nat} {p pos : Pos} {Q : Value → FM → AH → Prop} (h : Q (.int (-i) 0) m σ) : WV g k env wr (eval (.UnaryOp .USub (.Constant (.int i) j p) pos) env) Q m σ := W.neg (W.cInt ⟨rfl, h⟩)
noncomputable def notSlice : Expr → Bool | .Slice .. => false | _ => true
theorem W.subscriptN {value slice : Expr} {pos : Pos} {Q : Value → FM → AH → Prop} (hs : notSlice slice = true)
    (h : WV g k env wr (eval value env) (fun o m σ => WV g k env wr (eval slice env) (fun i m σ => SB g k value slice o i (fun z σ => Q z m σ) σ) m σ) m σ) : WV g k env wr (eval (.Subscript value slice pos) env) Q m σ := W.subscript h
theorem Nexts.weaken {it : Addr} {vs : List Value} {dep dep' : AH → Prop} {J : Nat → Obj → Prop} (N : Nexts g it vs dep J) (hd : ∀ σ, dep' σ → dep σ) : Nexts g it vs dep' J :=
  ⟨fun hA S h ho hj hv hQ => N.item hA S (hd _ h) ho hj hv hQ, fun hA S h ho hj hv hQ => N.done hA S (hd _ h) ho hj hv hQ, N.live, N.self, N.plain⟩
theorem It.weaken {x : Value} {vs : List Value} {dep dep' : AH → Prop} (h : It g x vs dep σ) (hd : ∀ σ, dep' σ → dep σ) (hm : ∀ σ0 σ1 : AH, σ0.Sublist σ1 → dep' σ0 → dep' σ1) : It g x vs dep' σ :=
  ⟨fun A B s u Q E hA S hu hQ => h.1 A B s u Q E hA S hu fun it o J N J0 e => hQ it o J (N.weaken hd) J0 e, hm⟩
/-- what a walk over a list needs -/
noncomputable def depL (g : Gh) (vs : List Value) (xv : Value) (σ : AH) : Prop := ∃ a, xv = .ref a ∧ Rd g σ a (.list vs)
theorem It.listD {a : Addr} {vs : List Value} (h : Rd g σ a (.list vs)) : It g (.ref a) vs (depL g vs (.ref a)) σ :=
  (It.list h).weaken (fun σ ⟨b, e, r⟩ => by cases e; exact r) fun σ0 σ1 hs ⟨b, e, r⟩ => ⟨b, e, r.up hs⟩
theorem It.triv {x : Value} {vs : List Value} (h : It g x vs (fun _ => True) σ) {dep : Value → AH → Prop} (hd : ∀ x σ, dep x σ) : It g x vs (dep x) σ := h.weaken (fun _ _ => trivial) fun _ _ _ _ => hd _ _
/- types -/
theorem CK.typeOf {v : Value} {T : String} {Q : Value → AH → Prop} (ht : TyIs g σ v T) (hn : (Value.type T == Value.type "builtin_function_or_method") = false) (h : Q (.type T) σ) : CK g k (.type "type") [v] [] Q σ := by
  intro args kw ha hk A B s ok S
  obtain ⟨x, rfl, hx⟩ := args1 ha
  cases List.map_eq_nil_iff.mp hk
  exact call_type_of (ht B s x S hx).1 hn ⟨σ, S, h⟩
theorem CO.isType {X Y : String} {Q : Value → AH → Prop} (h : Q (.bool (Value.type X == Value.type Y)) σ) : CO g k .Is (.type X) (.type Y) Q σ := by
  intro a b ha hb A B s ok S
  rw [er_type ha, er_type hb]
  exact wpAny_is_plain (by rfl) ⟨σ, S, h⟩
theorem CO.isNotType {X Y : String} {Q : Value → AH → Prop} (h : Q (.bool (!(Value.type X == Value.type Y))) σ) : CO g k .IsNot (.type X) (.type Y) Q σ := by
  intro a b ha hb A B s ok S
  rw [er_type ha, er_type hb]
  exact wpAny_isNot_plain (by rfl) ⟨σ, S, h⟩
theorem TR.none {Q : Bool → AH → Prop} (h : Q false σ) : TR g k .none Q σ := by
  intro a ha A B s ok S
  rw [er_none ha]
  have : truthy .none = Pure.pure false := rfl
  rw [this]
  exact wpAny_pure ⟨σ, S, h⟩
theorem WT.debug {p : Pos} {Q : Bool → FM → AH → Prop} (h : Q true m σ) : WT g k env wr (.Name "__debug__" p) Q m σ := by
  intro A B s ok S F
  refine wpAny_isTrue_value ?_ (by rfl)
  show wpAny _ _ (do standAt p; if (("__debug__" : Str) == ("__debug__" : Str)) = true then debugConstant else loadName env "__debug__") _ _ _
  refine wpAny_bind (wpAny_standAt ?_)
  rw [if_pos (by simp)]
  exact wpAny_bind (wpAny_rule (wpAny_pure (wpAny_truthy_bool ⟨m, σ, S, F, h⟩)))
theorem TyIs.is {a : Addr} {o : Obj} {T : String} (h : (a, AO.is o) ∈ σ) (hc : o.cls = .type T) (hd : o.dict = Option.none) : TyIs g σ (.ref a) T := by
  intro B s u S hu
  rw [er_ref hu]
  obtain ⟨o', ho, rfl, _⟩ := S.get h
  exact ⟨⟨_, ho, hc⟩, fun b e => by cases e; exact ⟨_, ho, hd⟩⟩
/- statements -/
theorem WX.retNone {pos : Pos} {rest : List Stmt} {Q : Flow → FM → AH → Prop} (h : Q (.ret .none) m σ) : WX g k env wr (.Return none pos :: rest) Q m σ :=
  WX.cons fun A B s ok S F => wpAny_Return_none ⟨m, σ, S, F, h⟩
theorem WX.try {body : List Stmt} {h0 : ExceptHandler} {hs : List ExceptHandler} {pos : Pos} {rest : List Stmt} {Q : Flow → FM → AH → Prop} (h : WX g k env wr body (thenX g k env wr rest Q) m σ) : WX g k env wr (.Try body (h0 :: hs) [] [] pos :: rest) Q m σ := by
  refine WX.cons fun A B s ok S F => wpAny_Try_except (wpAny_mono (h A B s ok S F) ?_ fun _ _ e => e.elim)
  rintro f s1 ⟨m1, σ1, S1, F1, h1⟩
  cases f with
  | next => exact wpAny_execs_nil ⟨m1, σ1, S1, F1, h1⟩
  | brk => exact ⟨m1, σ1, S1, F1, h1⟩
  | cont => exact ⟨m1, σ1, S1, F1, h1⟩
  | ret v => exact ⟨m1, σ1, S1, F1, h1⟩
/- nothing to walk over -/
noncomputable def IterNil (g : Gh) (x : Value) (σ : AH) : Prop :=
  ∀ (A : Around) (B : Base) (s : Shared) (u : Value) (Q : Value → Shared → Prop) (E : Value → Shared → Prop), A.handled = none → SS g B σ s → er u = x →
    (∀ o, o.isFreed = false → (∀ (A' : Around) (Q' : Option Value → Shared → Prop) (E' : Value → Shared → Prop), A'.handled = none → (∀ h' tk, Heap.ExtBut s.heap.objs.size (s.heap.push o) h' → Q' none { s with heap := h', toks := tk }) → wpAny (model g.prog g.w) A' (pyNext (.ref s.heap.objs.size)) Q' E' { s with heap := s.heap.push o }) →
      Q (.ref s.heap.objs.size) { s with heap := s.heap.push o }) → wpAny (model g.prog g.w) A (pyIter u) Q E s
theorem WX.forNone {target : Expr} {pos : Pos} {iter : Expr} {body : List Stmt} {rest : List Stmt} {Q : Flow → FM → AH → Prop}
    (h : WV g k env wr (eval iter env) (fun it m σ => IterNil g it σ ∧ WX g k env wr rest Q m σ) m σ)
    (hs : ∀ x, foldedSetIterable iter env x = Pure.pure x) : WX g k env wr (.For target iter body [] pos :: rest) Q m σ := by
  refine WX.cons fun A B s ok S F => ?_
  refine wpAny_For (wpAny_mono (h A B s ok S F) ?_ fun _ _ e => e) hs
  rintro u s1 ⟨m1, σ1, S1, F1, hI, h1⟩
  refine hI A B s1 u _ _ ok.handled S1 rfl fun o hl hn => ?_
  refine codeAny_mono (R := fun r s' => match r with | .ok f => (∃ m' σ', SS g B σ' s' ∧ FR B σ' env wr m' s'.heap ∧ thenX g k env wr rest Q (erF f) m' σ') | .error _ => False) ?_ ?_
  · refine codeAny_forLoop_any (fun n s => s = { s1 with heap := s1.heap.push o }) ?_ 0 rfl
    rintro n s rfl
    have H := Hid.new S1 F1
    have S := S1.pushed o
    have F := F1.more fun b o' e => Heap.get?_push_of_some o e
    refine wpAny_gain S.pos (hn A _ _ ok.handled fun h' tk hx hp => ?_)
    exact wpAny_execs_nil ⟨m1, σ1, (S.ext hx H.base H.off).tok tk, F.ext H hx, h1⟩
  · rintro r s' h'
    cases r with
    | ok f => exact h'
    | error e => exact h'.elim
theorem IterNil.list {a : Addr} (h : Rd g σ a (.list [])) : IterNil g (.ref a) σ := by
  intro A B s u Q E hA S hu hQ
  rw [er_ref hu]
  obtain ⟨its, hl, e⟩ := h.list S
  cases List.map_eq_nil_iff.mp e
  refine wpAny_pyIter_list hl (hQ _ rfl fun A' Q' E' hA' hq => ?_)
  exact wpAny_pyNext_list_end hA' (i := 0) ⟨_, Heap.get?_push_size _ rfl, rfl, rfl⟩ (hl.push _) (by simp) fun h' hx => hq h' s.toks hx
theorem ex_empty : emptyDict.ExactDict := by first | exact ⟨rfl, rfl⟩ | exact rfl | trivial | (unfold Obj.ExactDict; simp)
theorem IterNil.items {v d : Addr} {o : Obj} (h : (v, AO.is o) ∈ σ) (hd : (d, AO.is emptyDict) ∈ σ) (hc : o.cls = .type "dict_items") (hf : o.data = .fields #[.ref d]) : IterNil g (.ref v) σ := by
  intro A B s u Q E hA S hu hQ
  rw [er_ref hu]
  obtain ⟨o', ho, rfl, _⟩ := S.get h
  obtain ⟨od, hod, rfl, _⟩ := S.get hd
  have hm : s.heap.DictAt (strKind g.prog g.w) d [] 0 := ⟨emptyDict, #[], hod, ex_empty, rfl, (by intro e he; simp at he), (by exact .nil), (by simp)⟩
  refine wpAny_pyIter_items (knd := strKind g.prog g.w) (d := d) (kvs := []) (ep := 0) ⟨_, ho, hc, hf⟩ hm (hQ _ rfl fun A' Q' E' hA' hq => ?_)
  refine wpAny_pyNext_items_end (knd := strKind g.prog g.w) (kvs := []) (i := 0) hA' (Heap.get?_push_size _ rfl) ?_ (by rfl) fun h' hx => hq h' s.toks hx
  exact ⟨emptyDict, #[], Heap.get?_push_of_some _ hod, ex_empty, rfl, (by intro e he; simp at he), (by exact .nil), (by simp)⟩
theorem CK.items {d : Addr} {Q : Value → AH → Prop} (lo : (d == sysModules) = false) (hd : (d, AO.is emptyDict) ∈ σ) (h : ∀ v, Q (.ref v) ((v, .is { cls := .type "dict_items", data := .fields #[.ref d] }) :: σ)) : CK g k (.builtin "dict.items") [.ref d] [] Q σ := by
  intro args kw ha hk A B s ok S
  obtain ⟨x, rfl, hx⟩ := args1 ha
  rw [er_ref hx]
  cases List.map_eq_nil_iff.mp hk
  obtain ⟨od, hod, rfl, _⟩ := S.get hd
  have hm : s.heap.DictOf (strKind g.prog g.w) d [] := ⟨emptyDict, #[], 0, hod, ex_empty, rfl, (by intro e he; simp at he), (by exact .nil), (by simp)⟩
  exact call_meetsIn PySem.F.slot_dict_items hm.typeIs PySem.F.entry_dict_items (PySem.F.args_dict_items_1 _) (meets_dict_items (strKind g.prog g.w) d lo)
    ⟨⟨[], hm⟩, _, S.push (ao := .is _) ⟨rfl, rfl⟩, h _⟩
theorem er_i (i : Int) (t : Tok) : er (.int i t) = .int i 0 := rfl
theorem er_s (x : Str) (t : Tok) : er (.str x t) = .str x 0 := rfl
theorem er_b (b : Bool) : er (.bool b) = .bool b := rfl
theorem Le.skip {M : FM} {x : Str} {v : Value} (h : Le M m) (hx : (M.map Prod.fst).all (fun y => !(y == x)) = true) : Le M ((x, v) :: m) := by
  intro p hp
  have : p.1 ≠ x := by
    have h1 := List.all_eq_true.mp hx p.1 (List.mem_map.mpr ⟨p, hp, rfl⟩)
    simpa using h1
  rw [lookup_cons_ne this]; exact h p hp
/-- if one sign is in the text, it is replaced -/
theorem WX.esc {x : Str} {y0 y1 y2 : Str} {c : Nat} {z : List Nat} {j0 j1 j2 : Nat} {p0 p1 p2 p3 p4 p5 p6 p7 p8 p9 p10 : Pos} {rest : List Stmt} {l : List Nat} {Q : Flow → FM → AH → Prop} (hl : env.kindOf x = some .local) (hx : m.lookup x = some (sv l)) (hd : (x == ("__debug__" : Str)) = false)
    (e0 : y0 = ss [c]) (e1 : y1 = ss [c]) (e2 : y2 = ss z) (hne : [c] ≠ z) (hz : z.length ≤ 100) (hlen : l.length ≤ 100000)
    (hm : behindInMarks .In (.Name x p1) = false)
    (hbase : attributeBase (.Name x p3) "replace" env (eval (.Name x p3) env) = eval (.Name x p3) env)
    (hfew : ((backTo p7 (starEach [.Constant (.str y1) j1 p5, .Constant (.str y2) j2 p6] env)).all (fun x => !x.1) && (backToKw p7 (keywordEach [] env)).all (fun x => x.1.isSome)
      && decide (([.Constant (.str y1) j1 p5, .Constant (.str y2) j2 p6] : List Expr).length + ([] : List Keyword).length + (if ([] : List Keyword).isEmpty then 0 else 1) < 30)) = true)
    (hline : (p4.endLine == p7.line) = true)
    (hs : swapsWith (.Call (.Attribute (.Name x p3) "replace" p4) [.Constant (.str y1) j1 p5, .Constant (.str y2) j2 p6] [] p7) (some (.Name x p2)) p8.line env = Pure.pure false)
    (h : ∀ m', m'.lookup x = some (sv (repl c z l)) → WX g k env wr rest Q m' σ) :
    WX g k env wr (.If (.Compare (.Constant (.str y0) j0 p0) [.In] [.Name x p1] p9) [.Assign [.Name x p2] (.Call (.Attribute (.Name x p3) "replace" p4) [.Constant (.str y1) j1 p5, .Constant (.str y2) j2 p6] [] p7) p8] [] p10 :: rest) Q m σ := by
  refine WX.ite (WT.compare (W.cSv e0 (W.name (W.loadLocal hl hx (CO.inStr1 (TR.bool ?_))) hd)) hm)
  by_cases hc : c ∈ l
  · simp only [hc, decide_true, if_true]
    refine WX.assign hl (W.replaceC e1 e2 hne hz (W.name (W.loadLocal hl hx ⟨l, rfl, hlen, ?_⟩) hd) hbase hfew hline) hs
    exact WX.nil (h _ lookup_cons_self)
  · simp only [hc, decide_false, Bool.false_eq_true, if_false]
    exact WX.nil (h m (by rw [repl_not hc]; exact hx))
end
end Mine
/- RE -/
namespace Mine
open PySem PySem.W PySem.Calls PyProof.Rows
/-- a part of what is known, in any order -/
structure Sb (σ' σ : AH) : Prop where
  mem : ∀ p ∈ σ', p ∈ σ
  nd : (σ.map Prod.fst).Nodup → (σ'.map Prod.fst).Nodup
theorem Sb.refl (σ : AH) : Sb σ σ := ⟨fun _ h => h, fun h => h⟩
theorem Sb.sub {σ' σ : AH} (h : σ'.Sublist σ) : Sb σ' σ := ⟨fun _ hp => h.subset hp, fun hn => hn.sublist (h.map _)⟩
theorem Sb.perm {σ' σ : AH} (h : σ.Perm σ') : Sb σ' σ := ⟨fun _ hp => h.mem_iff.mpr hp, fun hn => (h.map _).nodup_iff.mp hn⟩
theorem Sb.trans {a b c : AH} (h : Sb a b) (h' : Sb b c) : Sb a c := ⟨fun p hp => h'.mem p (h.mem p hp), fun hn => h.nd (h'.nd hn)⟩
theorem Sb.app {a b : AH} (c : AH) (h : Sb a b) : Sb (a ++ c) (b ++ c) := by
  refine ⟨fun p hp => ?_, fun hn => ?_⟩
  · rcases List.mem_append.mp hp with q | q
    · exact List.mem_append.mpr (.inl (h.mem p q))
    · exact List.mem_append.mpr (.inr q)
  · rw [List.map_append] at hn ⊢
    obtain ⟨h1, h2, h3⟩ := List.nodup_append.mp hn
    refine List.nodup_append.mpr ⟨h.nd h1, h2, fun x hx y hy => ?_⟩
    obtain ⟨p, hp, rfl⟩ := List.mem_map.mp hx
    exact h3 _ (List.mem_map.mpr ⟨p, h.mem p hp, rfl⟩) y hy
theorem Sb.cons {a b : AH} (p : Addr × AO) (h : Sb a b) : Sb (p :: a) (p :: b) := by
  refine ⟨fun q hq => ?_, fun hn => ?_⟩
  · rcases List.mem_cons.mp hq with e | hq
    · exact List.mem_cons.mpr (.inl e)
    · exact List.mem_cons.mpr (.inr (h.mem q hq))
  · rw [List.map_cons, List.nodup_cons] at hn ⊢
    refine ⟨fun hx => ?_, h.nd hn.2⟩
    obtain ⟨q, hq, e⟩ := List.mem_map.mp hx
    exact hn.1 (List.mem_map.mpr ⟨q, h.mem q hq, e⟩)
theorem Sb.skip {a b : AH} (p : Addr × AO) (h : Sb a b) : Sb a (p :: b) := h.trans (Sb.sub (List.sublist_cons_self _ _))
section
variable {α β γ : Type} {g : Gh} {k : Nat} {env : Env} {wr : List Str} {m : FM} {σ σ' : AH}
theorem SS.sb {B : Base} {s : Shared} (S : SS g B σ s) (h : Sb σ' σ) : SS g B σ' s := ⟨S.ok, S.ge, S.keep, h.nd S.nd, fun p hp => S.own p (h.mem p hp), S.os, S.gens, S.pos⟩
theorem Sb.key {h : Sb σ' σ} {a : Addr} (ha : a ∉ σ.map Prod.fst) : a ∉ σ'.map Prod.fst := fun hm => by
  obtain ⟨p, hp, e⟩ := List.mem_map.mp hm
  exact ha (List.mem_map.mpr ⟨p, h.mem p hp, e⟩)
theorem FR.sb {B : Base} {hp : Heap} (F : FR B σ env wr m hp) (h : Sb σ' σ) : FR B σ' env wr m hp :=
  { F with offL := Sb.key (h := h) F.offL,
           cells := fun x c e => by
             obtain ⟨a, b, d⟩ := F.cells x c e
             refine ⟨a, b, ?_⟩
             split at d
             · rename_i q; rw [if_pos q]; exact ⟨d.1, Sb.key (h := h) d.2⟩
             · rename_i q; rw [if_neg q]; exact d }
theorem Rd.sb {a : Addr} {ao : AO} (hs : Sb σ' σ) (h : Rd g σ' a ao) : Rd g σ a ao := h.imp (fun h => hs.mem _ h) id
theorem W.sb {t : Sem α} {Q : α → FM → AH → Prop} (hs : Sb σ' σ) (h : W g k env wr t Q m σ') : W g k env wr t Q m σ := fun A B s ok S F => h A B s ok (S.sb hs) (F.sb hs)
theorem WX.sb {ss : List Stmt} {Q : Flow → FM → AH → Prop} (hs : Sb σ' σ) (h : WX g k env wr ss Q m σ') : WX g k env wr ss Q m σ := W.sb hs h
theorem WV.sb {t : Sem Value} {Q : Value → FM → AH → Prop} (hs : Sb σ' σ) (h : WV g k env wr t Q m σ') : WV g k env wr t Q m σ := W.sb hs h
theorem WT.sb {e : Expr} {Q : Bool → FM → AH → Prop} (hs : Sb σ' σ) (h : WT g k env wr e Q m σ') : WT g k env wr e Q m σ := W.sb (α := Bool) hs h
theorem C.sb {t : Sem α} {Q : α → AH → Prop} (hs : Sb σ' σ) (h : C g k t Q σ') : C g k t Q σ := fun A B s ok S => h A B s ok (S.sb hs)
theorem CK.sb {f : Value} {args : List Value} {kws : FM} {Q : Value → AH → Prop} (hs : Sb σ' σ) (h : CK g k f args kws Q σ') : CK g k f args kws Q σ := fun a b c d => C.sb hs (h a b c d)
theorem W.postB {t : Sem α} {Q : α → FM → AH → Prop} (h : W g k env wr t (fun a m σ => ∃ σ0, Sb σ0 σ ∧ Q a m σ0) m σ) : W g k env wr t Q m σ :=
  fun A B s ok S F => wpAny_mono (h A B s ok S F) (fun a s' ⟨m', σ', S', F', σ0, hs, q⟩ => ⟨m', σ0, S'.sb hs, F'.sb hs, q⟩) fun _ _ e => e
theorem C.postB {t : Sem α} {Q : α → AH → Prop} (h : C g k t (fun a σ => ∃ σ0, Sb σ0 σ ∧ Q a σ0) σ) : C g k t Q σ :=
  fun A B s ok S => wpAny_mono (h A B s ok S) (fun a s' ⟨σ', S', σ0, hs, q⟩ => ⟨σ0, S'.sb hs, q⟩) fun _ _ e => e
theorem CK.postB {f : Value} {args : List Value} {kws : FM} {Q : Value → AH → Prop} (h : CK g k f args kws (fun a σ => ∃ σ0, Sb σ0 σ ∧ Q a σ0) σ) : CK g k f args kws Q σ := fun a b c d => C.postB (h a b c d)
theorem CKc.postB {f : Value} {args : List Value} {kws : FM} {Q : Value → AH → Prop} (h : CKc g k f args kws (fun a σ => ∃ σ0, Sb σ0 σ ∧ Q a σ0) σ) : CKc g k f args kws Q σ := by
  intro a b c d A B s ok S
  refine codeAny_mono (h a b c d A B s ok S) ?_
  rintro r s' h'
  cases r with
  | error e => exact h'
  | ok f =>
    cases f with
    | ret v => obtain ⟨σ1, S1, σ0, hs, q⟩ := h'; exact ⟨σ0, S1.sb hs, q⟩
    | next => exact h'
    | brk => exact h'
    | cont => exact h'
theorem CKc.mono {f : Value} {args : List Value} {kws : FM} {Q Q' : Value → AH → Prop} (h : CKc g k f args kws Q σ) (q : ∀ v σ, Q v σ → Q' v σ) : CKc g k f args kws Q' σ := by
  intro a b c d A B s ok S
  refine codeAny_mono (h a b c d A B s ok S) ?_
  rintro r s' h'
  cases r with
  | error e => exact h'
  | ok f =>
    cases f with
    | ret v => obtain ⟨σ1, S1, q1⟩ := h'; exact ⟨σ1, S1, q _ _ q1⟩
    | next => exact h'
    | brk => exact h'
    | cont => exact h'
/-- two facts of two objects tell two addresses -/
theorem C.nd {t : Sem α} {Q : α → AH → Prop} (h : (σ.map Prod.fst).Nodup → C g k t Q σ) : C g k t Q σ := fun A B s ok S => h S.nd A B s ok S
end
theorem Subscript_SliceA {prog : Program} {w : World} {A : Around} {E : Value → Shared → Prop} {s : Shared} {env : Env} {value : Expr} {lower upper : Option Expr} {p pos : Pos} {T id : String} {Q : Value → Shared → Prop}
    (hl : typeLookup (.type T) "__getitem__" = pure (some (.builtin id)))
    (h : wpAny (model prog w) A (eval value env) (fun o s₁ => wpAny (model prog w) A (eval (.Slice lower upper none p) env) (fun i s₂ => s₂.TypeIs o T ∧ wpAny (model prog w) A (getItem o i) Q E s₂) E s₁) E s) :
    wpAny (model prog w) A (eval (.Subscript value (.Slice lower upper none p) pos) env) Q E s := by
  rw [eval_Subscript]
  refine wpAny_bind (wpAny_mono h (fun o s₁ h₁ => wpAny_bind (wpAny_holding (wpAny_mono h₁ (fun i s₂ h₂ => wpAny_bind (wpAny_standAt ?_)) fun _ _ x => x)))
    fun _ _ x => x)
  have fin : wpAny (model prog w) A (operate [i, o] (getItem o i)) (fun r s₃ => wpAny (model prog w) A (letTemporaryGo value o r >>= fun _ => pure r) Q E s₃) E s₂ :=
    wpAny_operating (wpAny_mono h₂.2 (fun r s₃ h₃ => wpAny_bind (wpAny_letTemporaryGo (wpAny_pure h₃))) fun _ _ x => x)
  first
    | (refine wpAny_bind ?_
       rw [getitemInPython_of_ne h₂.1.not_modules]
       refine wpAny_bind (wpAny_specialOf h₂.1 hl ?_)
       first
         | exact wpAny_pure (wpAny_bind fin)
         | exact wpAny_bind (wpAny_pure (wpAny_bind fin))
         | exact wpAny_bind fin)
    | (refine wpAny_bind (wpAny_specialOf h₂.1 hl ?_)
       first
         | exact wpAny_bind (wpAny_pure (wpAny_bind fin))
         | exact wpAny_bind fin)
theorem W.listSliceA {g : Gh} {k : Nat} {env : Env} {wr : List Str} {m : FM} {σ : AH} {value : Expr} {lower upper : Option Expr} {p pos : Pos} {Q : Value → FM → AH → Prop}
    (h : WV g k env wr (eval value env) (fun o m σ => WP g k env wr lower (fun l m σ => WP g k env wr upper (fun u m σ =>
      ∃ a vs lo hi, o = .ref a ∧ Rd g σ a (.list vs) ∧ vs.length ≤ 100000 ∧ l = partV lo ∧ u = partV hi ∧ ∀ D, Q (.ref D) m ((D, .list (pickV vs lo hi)) :: σ)) m σ) m σ) m σ) :
    WV g k env wr (eval (.Subscript value (.Slice lower upper none p) pos) env) Q m σ := by
  intro A B s ok S F
  refine Subscript_SliceA (T := "list") list_getitem_lookup (wpAny_mono (h A B s ok S F) ?_ fun _ _ e => e)
  rintro o s1 ⟨m1, σ1, S1, F1, h1⟩
  refine wpAny_Slice (wpAny_mono (WP.run h1 A B s1 ok S1 F1) ?_ fun _ _ e => e)
  rintro l s2 ⟨m2, σ2, S2, F2, h2⟩
  refine wpAny_mono (WP.run h2 A B s2 ok S2 F2) ?_ fun _ _ e => e
  rintro u s3 ⟨m3, σ3, S3, F3, a, vs, lo, hi, ho, hr, hlen, hl, hu, hq⟩
  obtain ⟨its, hil, e⟩ := hr.list S3
  have hle : its.length = vs.length := by rw [← e, List.length_map]
  rw [er_ref ho]
  rw [evalPart_none]
  refine wpAny_pure ⟨(hil.push _).typeIs, wpAny_getItem_list_slice (hil.push _) (Heap.IsSliceOf.new ..) (partV_is hl) (partV_is hu) .none (by simp) ?_ (by rw [List.size_toArray, sizeLine_eq]; omega)⟩
  rw [Heap.size_push]
  refine ⟨m3, _, ?_, ?_, hq _⟩
  · have := (S3.pushed { cls := .type "slice", data := .fields #[l, u, .none] }).push (o := { cls := .type "list", data := .seq (slicePick its.toArray (lo.map (fun (n : Nat) => (n : Int))) (hi.map (fun (n : Nat) => (n : Int))) none) }) (ao := .list (pickV vs lo hi)) ⟨_, _, rfl, by
      rw [slicePick_gen, List.toList_toArray, ← e]
      cases lo <;> cases hi <;> simp [pickV, List.map_drop, List.map_take]⟩
    rw [show ({ s3 with heap := s3.heap.push { cls := .type "slice", data := .fields #[l, u, .none] } } : Shared).heap.objs.size = s3.heap.objs.size + 1 from Heap.size_push ..] at this
    exact this
  · refine (F3.more fun b o e => Heap.get?_push_of_some _ (Heap.get?_push_of_some _ e)).keeps (fun _ _ _ e => e) (fun _ _ => rfl) fun b hb hB hm => ?_
    rcases List.mem_cons.mp hm with q | q
    · have q' : b = s3.heap.objs.size + 1 := q
      obtain ⟨o, ho⟩ := F3.live hb
      have hlt := Heap.lt_size ho
      rw [q'] at hlt
      exact absurd hlt (Nat.not_lt.mpr (Nat.le_succ _))
    · exact F3.off hb hB q
theorem SB.tup {g : Gh} {k : Nat} {σ : AH} {value slice : Expr} {a : Addr} {vs : List Value} {i : Nat} {v : Value} {Q : Value → AH → Prop} (hr : Rd g σ a (.tup vs)) (hx : vs[i]? = some v) (hb : vs.length ≤ 1000000) (h : Q v σ)
    (hs : ∀ u : Tok, subscripted slice false (.ref a) (.int i u) = operate [.ref a, .int i u] (getItem (.ref a) (.int i u)) := by intro _; with_unfolding_all rfl) : SB g k value slice (.ref a) (.int i 0) Q σ := by
  intro x y hx' hy A B s ok S
  rw [er_ref hx']
  obtain ⟨t, rfl⟩ := er_int hy
  obtain ⟨o, ho, its, n, rfl, e⟩ := hr.get S
  have hl : its.size = vs.length := by rw [← e]; simp
  have hlt : i < vs.length := (List.getElem?_eq_some_iff.mp hx).1
  have hg : ∃ u, its[i]? = some u ∧ er u = v := by
    rw [← e, List.getElem?_map] at hx
    obtain ⟨u, hu, e2⟩ := Option.map_eq_some_iff.mp hx
    exact ⟨u, by simpa using hu, e2⟩
  obtain ⟨u, hu, rfl⟩ := hg
  refine tail_any (T := "tuple") ⟨_, ho, rfl⟩ F.slot_tuple_getitem.lookup (P.getItem_tuple (n := n) ho (by omega) (by omega) (StrLaws.seqIndex_nonneg (by omega) (by omega)) (by rw [Int.toNat_natCast]; exact hu) ⟨σ, S, h⟩) (hs t)
/- great and small letters, of the plain signs -/
noncomputable def lowC (c : Nat) : Nat := if 65 ≤ c ∧ c ≤ 90 then c + 32 else c
noncomputable def upC (c : Nat) : Nat := if 97 ≤ c ∧ c ≤ 122 then c - 32 else c
theorem lowerOf_plain : ∀ c : Fin 128, Unicode.lowerOf c.val = [lowC c.val] := by decide +kernel
theorem upperOf_plain : ∀ c : Fin 128, Unicode.upperOf c.val = [upC c.val] := by decide +kernel
theorem lower_is {l : List Nat} (h : ∀ c ∈ l, c < 128) : Txt.lower (ss l) = ss (l.map lowC) := by
  apply Str.ext'
  show placed (ss l) (fun i _ => Unicode.lowerAt (ss l).cps i) = _
  unfold placed
  have e : (ss l).cps.mapIdx (fun i c => (Unicode.lowerAt (ss l).cps i).toArray) = (l.map fun c => #[lowC c]).toArray := by
    apply Array.ext
    · simp
    · intro i h1 h2
      have hi : i < l.length := by simpa using h1
      have hc := h _ (List.getElem_mem hi)
      simp only [Array.getElem_mapIdx, List.getElem_toArray, List.getElem_map]
      unfold Unicode.lowerAt
      have hg : (ss l).cps[i]? = some l[i] := by simp [hi]
      rw [hg]
      dsimp only
      have h3 : (l[i] == 0x3A3) = false := by rw [beq_eq_false_iff_ne]; omega
      rw [h3, Bool.false_and]
      simp only [Bool.false_eq_true, if_false]
      rw [lowerOf_plain ⟨l[i], hc⟩]
  rw [e]
  have : ∀ l : List Nat, (l.map fun c => #[lowC c]).toArray.flatten = (l.map lowC).toArray := by
    intro l
    apply Array.ext'
    induction l with
    | nil => simp
    | cons x r ih => simp at ih ⊢; exact ih
  exact this l
theorem upper_is {l : List Nat} (h : ∀ c ∈ l, c < 128) : Txt.upper (ss l) = ss (l.map upC) := by
  apply Str.ext'
  show placed (ss l) (fun _ c => Unicode.upperOf c) = _
  unfold placed
  have e : (ss l).cps.mapIdx (fun i c => (Unicode.upperOf c).toArray) = (l.map fun c => #[upC c]).toArray := by
    apply Array.ext
    · simp
    · intro i h1 h2
      have hi : i < l.length := by simpa using h1
      have hc := h _ (List.getElem_mem hi)
      simp only [Array.getElem_mapIdx, List.getElem_toArray, List.getElem_map]
      rw [upperOf_plain ⟨l[i], hc⟩]
  rw [e]
  have : ∀ l : List Nat, (l.map fun c => #[upC c]).toArray.flatten = (l.map upC).toArray := by
    intro l
    apply Array.ext'
    induction l with
    | nil => simp
    | cons x r ih => simp at ih ⊢; exact ih
  exact this l
end Mine
/- RF -/
namespace Mine
open PySem PySem.W PySem.Calls PyProof.Rows
noncomputable def nI (o : Option Nat) : Option Int := o.map (fun (n : Nat) => (n : Int))
theorem sliceText_is (a : List Nat) (lo hi : Option Nat) (h : lo.getD 0 ≤ hi.getD a.length ∧ hi.getD a.length ≤ a.length) : StrLaws.sliceText (ss a) (nI lo) (nI hi) = ss (pickV a lo hi) := by
  have hl : (ss a).length = a.length := ss_len a
  have key : ∀ x y : Nat, x ≤ y → y ≤ a.length → StrLaws.sliceText (ss a) (some (x : Int)) (some (y : Int)) = ss ((a.drop x).take (y - x)) := fun x y h1 h2 => by
    rw [StrLaws.sliceText_nat (ss a) h1 (by rw [hl]; exact h2)]
  have e0 : ∀ u, StrLaws.sliceText (ss a) none u = StrLaws.sliceText (ss a) (some ((0 : Nat) : Int)) u := fun u => by
    unfold StrLaws.sliceText; rw [StrLaws.sliceIdx_none_lo]; rfl
  have e1 : ∀ l, StrLaws.sliceText (ss a) l none = StrLaws.sliceText (ss a) l (some (a.length : Int)) := fun l => by
    unfold StrLaws.sliceText; rw [StrLaws.sliceIdx_none_hi, hl]
  cases lo with
  | none =>
    cases hi with
    | none =>
      show StrLaws.sliceText (ss a) none none = _
      rw [e0, e1, key 0 a.length (Nat.zero_le _) (Nat.le_refl _)]
      simp [pickV]
    | some y =>
      show StrLaws.sliceText (ss a) none (some (y : Int)) = _
      rw [e0, key 0 y (Nat.zero_le _) h.2]
      simp [pickV]
  | some x =>
    cases hi with
    | none =>
      show StrLaws.sliceText (ss a) (some (x : Int)) none = _
      rw [e1, key x a.length h.1 (Nat.le_refl _)]
      simp [pickV, List.take_of_length_le]
    | some y =>
      show StrLaws.sliceText (ss a) (some (x : Int)) (some (y : Int)) = _
      rw [key x y h.1 h.2]
      simp [pickV]
theorem pick_len (a : List Nat) (lo hi : Option Nat) : (pickV a lo hi).length ≤ a.length := by
  cases lo <;> cases hi <;> simp only [pickV, List.length_take, List.length_drop] <;> omega
theorem part_tok {u : Value} {lo : Option Nat} (h : er u = partV lo) : ∃ l : Option (Int × Tok), u = partValue l ∧ l.map (·.1) = nI lo := by
  cases lo with
  | none => exact ⟨none, er_none h, rfl⟩
  | some a => obtain ⟨t, rfl⟩ := er_int h; exact ⟨some ((a : Int), t), rfl, rfl⟩
theorem W.strSlice {g : Gh} {k : Nat} {env : Env} {wr : List Str} {m : FM} {σ : AH} {value : Expr} {lower upper : Option Expr} {p pos : Pos} {Q : Value → FM → AH → Prop}
    (h : WV g k env wr (eval value env) (fun o m σ => WP g k env wr lower (fun l m σ => WP g k env wr upper (fun u m σ =>
      ∃ a lo hi, o = sv a ∧ a.length ≤ 1000000 ∧ (lo.getD 0 ≤ hi.getD a.length ∧ hi.getD a.length ≤ a.length) ∧ l = partV lo ∧ u = partV hi ∧ Q (sv (pickV a lo hi)) m σ) m σ) m σ) m σ)
    (ht : ∀ o r, letTemporaryGo value o r = Pure.pure ()) : WV g k env wr (eval (.Subscript value (.Slice lower upper none p) pos) env) Q m σ := by
  intro A B s ok S F
  refine wpAny_Subscript_str_slice (wpAny_mono (h A B s ok S F) ?_ fun _ _ e => e) ht
  rintro o s1 ⟨m1, σ1, S1, F1, h1⟩
  refine wpAny_mono (WP.run h1 A B s1 ok S1 F1) ?_ fun _ _ e => e
  rintro l s2 ⟨m2, σ2, S2, F2, h2⟩
  refine wpAny_mono (WP.run h2 A B s2 ok S2 F2) ?_ fun _ _ e => e
  rintro u s3 ⟨m3, σ3, S3, F3, a, lo, hi, ho, hlen, hb, hl, hu, hq⟩
  obtain ⟨t, rfl⟩ := er_str ho
  obtain ⟨pl, rfl, el⟩ := part_tok hl
  obtain ⟨pu, rfl, eu⟩ := part_tok hu
  refine ⟨ss a, t, pl, pu, rfl, rfl, rfl, ?_⟩
  have S4 := S3.pushed { cls := .type "slice", data := .fields #[partValue pl, partValue pu, .none] }
  have F4 : FR B σ3 env wr m3 (s3.heap.push { cls := .type "slice", data := .fields #[partValue pl, partValue pu, .none] }) := F3.more fun b o e => Heap.get?_push_of_some _ e
  have es := sliceText_is a lo hi hb
  unfold StrLaws.sliceText at es
  unfold sliceMade slicePicked
  rw [el, eu]
  have e1 : ((Option.map (fun x => x.fst) (none : Option (Int × Tok))).getD 1) = (1 : Int) := rfl
  rw [e1]
  by_cases hc : ((1 : Int) == 1 && (Builtin.Str.strSliceIndices (nI lo) (nI hi) 1 (ss a).length).length == (ss a).length) = true
  · rw [if_pos hc] at es ⊢
    exact ⟨m3, σ3, S4, F4, by show Q (.str (ss a) 0) m3 σ3; rw [es]; exact hq⟩
  · rw [if_neg hc] at es ⊢
    refine ⟨?_, m3, σ3, S4.tok _, F4, by show Q (.str _ 0) m3 σ3; rw [es]; exact hq⟩
    rw [es, ss_len, sizeLine_eq]
    have := pick_len a lo hi
    omega
end Mine
/- RG -/
namespace Mine
open PySem PySem.W PySem.Calls PyProof.Rows
section
variable {g : Gh} {k : Nat} {env : Env} {wr : List Str} {m : FM} {σ : AH}
/-- a comprehension over what is made on the spot -/
theorem W.compV {γ : Type} {elt target iter : Expr} {ifs : List Expr} {scope : Scope} {pos : Pos} {Q : Value → FM → AH → Prop} {sc : Scope} (he : env.scope = sc) (V : γ → List Value) (dep : γ → Value → AH → Prop) (I : γ → Value → Nat → List Value → AH → Prop) (M0 : FM)
    (hc : capsOk sc scope (M0.map Prod.fst) = true) (hk : scope.kind = .function) (hlen : ∀ c, (V c).length ≤ 1000000) (hM : Le M0 m)
    (h : WV g k env wr (eval iter env) (fun xv m1 σ1 => ∃ c, It g xv (V c) (dep c xv) σ1 ∧ (∃ σ0, σ0.Sublist σ1 ∧ I c xv 0 [] σ0) ∧ Le M0 m1 ∧ ∀ ys σ' D, I c xv (V c).length ys σ' → Q (.ref D) m1 ((D, .list ys) :: σ')) m σ)
    (hd : ∀ c xv i ys σ, I c xv i ys σ → dep c xv σ)
    (turn : ∀ c xv cenv, cenv.scope = compScope sc scope → ∀ i v ys σ, (V c)[i]? = some v → I c xv i ys σ →
      WG g k cenv (cellNames scope) target v (fun m σ => WTs g k cenv (cellNames scope) ifs (fun b m σ => if b then WV g k cenv (cellNames scope) (eval elt cenv) (fun e m σ => I c xv (i + 1) (ys ++ [e]) σ ∧ Le M0 m) m σ else I c xv (i + 1) ys σ ∧ Le M0 m) m σ) M0 σ)
    (hs : ∀ x, foldedSetIterable iter env x = Pure.pure x) : WV g k env wr (eval (.ListComp elt [⟨target, iter, ifs, 0⟩] scope pos) env) Q m σ := by
  refine WV.post ?_
  intro A B s ok S F
  rw [eval_ListComp]
  refine wpAny_comprehension_free (use := none) rfl hs (closureFor_of (cells_of_caps he hc F hM)) hk (caps_names hc) (wpAny_mono (h A B s ok S F) ?_ fun _ _ e => e)
  rintro u s1 ⟨m1, σ1, S1, F1, c, hI, ⟨σ0, hs0, h0⟩, hM1, hQ⟩
  refine hI.1 A B s1 u _ _ ok.handled S1 rfl fun it o J N J0 hit => ?_
  subst hit
  refine comp_core (dep := dep c (er u)) (I := fun i ys σ => (∃ σ0, σ0.Sublist σ ∧ I c (er u) i ys σ0) ∧ dep c (er u) σ) he hc hk (hlen c) (fun i ys σ h => h.2) ?_ ok (S1.pushed o) (F1.more fun b o' e => Heap.get?_push_of_some _ e) hM1 ⟨⟨σ0, hs0, h0⟩, hI.2 _ _ hs0 (hd _ _ _ _ _ h0)⟩ N J0 (Heap.get?_push_size _ (N.live _ _ J0)) (Hid.new S1 F1) (cells_of_caps he hc F hM) ?_
  · rintro cenv hce i v ys σ hv ⟨⟨σ0, hs0, h0⟩, _⟩
    exact turn_sub (I := I c (er u)) (hd c (er u)) ⟨σ0, hs0, turn c (er u) cenv hce i v ys σ0 hv h0⟩
  · rintro D C s' σ' ys m' ⟨⟨σ0', hs0', h0'⟩, _⟩ S' F' HC hn
    exact ⟨m', hn, fun h' hs' => ⟨m1, _, S'.ext hs'.extBut HC.base HC.off, F'.ext HC hs'.extBut, _, hs0'.cons_cons _, hQ ys σ0' D h0'⟩⟩
end
end Mine
/- P2 -/
namespace Mine
theorem cnt_split (x : Int) : ∀ xs : List Int, xs.Pairwise (· ≤ ·) → (∀ y ∈ xs.take (cntLe xs x), y ≤ x) ∧ (∀ y ∈ xs.drop (cntLe xs x), x < y)
  | [], _ => ⟨by simp, by simp⟩
  | y :: r, h => by
    obtain ⟨h1, h2⟩ := List.pairwise_cons.mp h
    obtain ⟨i1, i2⟩ := cnt_split x r h2
    by_cases hy : y ≤ x
    · have e : cntLe (y :: r) x = cntLe r x + 1 := by unfold cntLe; rw [List.filter_cons_of_pos (by simpa using hy), List.length_cons]
      rw [e, List.take_succ_cons, List.drop_succ_cons]
      exact ⟨fun z hz => by rcases List.mem_cons.mp hz with rfl | hz; exact hy; exact i1 z hz, i2⟩
    · have e : cntLe (y :: r) x = 0 := by
        unfold cntLe
        rw [List.length_eq_zero_iff, List.filter_eq_nil_iff]
        intro z hz
        rcases List.mem_cons.mp hz with rfl | hz
        · simpa using hy
        · have := h1 z hz; simp; omega
      rw [e]
      refine ⟨by simp, fun z hz => ?_⟩
      rcases List.mem_cons.mp hz with rfl | hz
      · omega
      · have := h1 z hz; omega
theorem ins_sorted {xs : List Int} {x : Int} (h : xs.Pairwise (· ≤ ·)) : (ins xs x).Pairwise (· ≤ ·) := by
  obtain ⟨i1, i2⟩ := cnt_split x xs h
  unfold ins
  have h' := h
  rw [← List.take_append_drop (cntLe xs x) xs] at h'
  obtain ⟨a, b, c⟩ := List.pairwise_append.mp h'
  refine List.pairwise_append.mpr ⟨a, List.pairwise_cons.mpr ⟨fun y hy => by have := i2 y hy; omega, b⟩, fun y hy z hz => ?_⟩
  rcases List.mem_cons.mp hz with rfl | hz
  · exact i1 y hy
  · exact c y hy z hz
theorem ins_perm (xs : List Int) (x : Int) : (ins xs x).Perm (x :: xs) := by
  unfold ins
  refine List.perm_middle.trans ?_
  rw [List.take_append_drop]
theorem ins_len (xs : List Int) (x : Int) : (ins xs x).length = xs.length + 1 := (ins_perm xs x).length_eq
noncomputable def insAll (ns : List Int) : List Int := ns.foldl ins []
theorem insAll_from : ∀ (ns acc : List Int), acc.Pairwise (· ≤ ·) → (ns.foldl ins acc).Pairwise (· ≤ ·) ∧ (ns.foldl ins acc).Perm (ns ++ acc)
  | [], acc, h => ⟨h, List.Perm.refl _⟩
  | x :: r, acc, h => by
    obtain ⟨a, b⟩ := insAll_from r (ins acc x) (ins_sorted h)
    refine ⟨a, b.trans ?_⟩
    exact ((ins_perm acc x).append_left r).trans List.perm_middle
theorem insAll_sorted (ns : List Int) : (insAll ns).Pairwise (· ≤ ·) := (insAll_from ns [] List.Pairwise.nil).1
theorem insAll_perm (ns : List Int) : (insAll ns).Perm ns := by have := (insAll_from ns [] List.Pairwise.nil).2; rwa [List.append_nil] at this
theorem insAll_len (ns : List Int) : (insAll ns).length = ns.length := (insAll_perm ns).length_eq
theorem sorted_unique {xs ys : List Int} (h1 : xs.Pairwise (· ≤ ·)) (h2 : ys.Pairwise (· ≤ ·)) (hp : xs.Perm ys) : xs = ys :=
  hp.eq_of_pairwise (fun a b _ _ h h' => Int.le_antisymm h h') h1 h2
end Mine
/- P3 -/
namespace Mine
/-- the first place at or under n that ends at q or behind -/
noncomputable def commF (en : List Int) (q : Int) : Nat → Nat
  | 0 => 0
  | n + 1 => if en.getD (n + 1) 0 < q then commF en q n else n + 1
noncomputable def comm (pl en : List Int) (x y : Nat) : Nat := commF en (pl.getD (max x y) 0) (min x y)
theorem commF_le (en : List Int) (q : Int) : ∀ n, commF en q n ≤ n
  | 0 => Nat.le_refl _
  | n + 1 => by
    unfold commF
    split
    · exact Nat.le_succ_of_le (commF_le en q n)
    · exact Nat.le_refl _
/-- the greatest of a list, or the first value -/
noncomputable def maxOf : List Int → Int := fun l => l.foldl max (-1)
theorem maxOf_from : ∀ (l : List Int) (a : Int), (l.foldl max a = a ∨ l.foldl max a ∈ l) ∧ a ≤ l.foldl max a ∧ ∀ x ∈ l, x ≤ l.foldl max a
  | [], a => ⟨.inl rfl, Int.le_refl _, by simp⟩
  | x :: r, a => by
    obtain ⟨h1, h2, h3⟩ := maxOf_from r (max a x)
    rw [List.foldl_cons]
    refine ⟨?_, by omega, fun y hy => ?_⟩
    · rcases h1 with h1 | h1
      · rw [h1]
        rcases Int.le_total a x with q | q
        · right; rw [Int.max_eq_right q]; exact List.mem_cons_self
        · left; exact Int.max_eq_left q
      · exact .inr (List.mem_cons_of_mem _ h1)
    · rcases List.mem_cons.mp hy with rfl | hy
      · omega
      · exact h3 y hy
theorem maxOf_eq {l : List Int} {M : Int} (h1 : M ∈ (-1) :: l) (h2 : ∀ x ∈ (-1 : Int) :: l, x ≤ M) : M = maxOf l := by
  obtain ⟨a, b, c⟩ := maxOf_from l (-1)
  have e1 : maxOf l ≤ M := by
    rcases a with a | a
    · unfold maxOf; rw [a]; exact h2 _ List.mem_cons_self
    · exact h2 _ (List.mem_cons_of_mem _ a)
  have e2 : M ≤ maxOf l := by
    rcases List.mem_cons.mp h1 with rfl | h1
    · exact b
    · exact c M h1
  omega
end Mine
/- P4 -/
namespace Mine
/-- climbing from a place to the first that is told, or to -1 -/
noncomputable def climbF (par : List Int) (wh : List Nat) : Nat → Int → Int
  | 0, q => q
  | n + 1, q => if 0 ≤ q ∧ q.toNat ∉ wh then climbF par wh n (par.getD q.toNat 0) else q
noncomputable def partOf (par : List Int) (wh : List Nat) (k : Nat) : Int := climbF par wh (k + 1) k
/-- lefts, of elements in their order -/
structure Pre (par : List Int) : Prop where
  len : par.length = 9
  zero : par.getD 0 0 = -1
  lo : ∀ k, 1 ≤ k → k < 9 → 0 ≤ par.getD k 0
  hi : ∀ k, k < 9 → par.getD k 0 < k
  nest : ∀ k j : Nat, k < 9 → par.getD k 0 < j → j < k → par.getD k 0 ≤ par.getD j 0
theorem Pre.low {par : List Int} (h : Pre par) {k : Nat} (hk : k < 9) : -1 ≤ par.getD k 0 := by
  rcases Nat.eq_zero_or_pos k with rfl | q
  · rw [h.zero]; exact Int.le_refl _
  · have := h.lo k q hk; omega
/-- the eight words, by number: kind, and 4 more if great -/
noncomputable def wordOf : Nat → List Nat
  | 0 => [97, 38]
  | 1 => [98, 60]
  | 2 => [99, 38, 60]
  | 3 => [97]
  | 4 => [65, 38]
  | 5 => [66, 60]
  | 6 => [67, 38, 60]
  | _ => [65]
noncomputable def insStep (par : List Int) (acc : List Nat) (j : Nat) : List Nat := if par.getD j 0 ∈ acc.map (fun (i : Nat) => (i : Int)) then acc ++ [j] else acc
noncomputable def insideF (par : List Int) (k : Nat) : List Nat := (List.range' (k + 1) (8 - k)).foldl (insStep par) [k]
noncomputable def lowW (c : Nat) : List Nat := wordOf (c % 4)
noncomputable def kindsF (par : List Int) (Wc : List Nat) (k : Nat) : List (List Nat) := (insideF par k).map fun j => lowW (Wc.getD j 0)
noncomputable def has3 (ks : List (List Nat)) : Bool := decide ([97, 38] ∈ ks) && (decide ([98, 60] ∈ ks) && decide ([99, 38, 60] ∈ ks))
noncomputable def wholeF (par : List Int) (Wc : List Nat) : List Nat := (List.range' 0 9).filter fun k => has3 (kindsF par Wc k)
theorem ins_lt (par : List Int) {n : Nat} : ∀ (l acc : List Nat), (∀ j ∈ l, j < n) → (∀ j ∈ acc, j < n) → ∀ j ∈ l.foldl (insStep par) acc, j < n
  | [], acc, _, h => h
  | x :: r, acc, hl, h => by
    refine ins_lt par r (insStep par acc x) (fun j hj => hl j (List.mem_cons_of_mem _ hj)) fun j hj => ?_
    unfold insStep at hj
    split at hj
    · rcases List.mem_append.mp hj with q | q
      · exact h j q
      · rw [List.mem_singleton.mp q]; exact hl _ List.mem_cons_self
    · exact h j hj
theorem ins_length (par : List Int) : ∀ (l acc : List Nat), (l.foldl (insStep par) acc).length ≤ acc.length + l.length
  | [], acc => Nat.le_refl _
  | x :: r, acc => by
    have := ins_length par r (insStep par acc x)
    have h2 : (insStep par acc x).length ≤ acc.length + 1 := by unfold insStep; split <;> simp
    rw [List.foldl_cons, List.length_cons]; omega
end Mine
/- P5 -/
namespace Mine
theorem getD_app_lt {α : Type} {l : List α} {a d : α} {i : Nat} (h : i < l.length) : (l ++ [a]).getD i d = l.getD i d := by
  rw [List.getD_eq_getElem?_getD, List.getElem?_append_left h, ← List.getD_eq_getElem?_getD]
theorem getD_app_eq {α : Type} {l : List α} {a d : α} {i : Nat} (h : i = l.length) : (l ++ [a]).getD i d = a := by
  rw [List.getD_eq_getElem?_getD, h]; simp
/-- the last of those that are open, or -1 -/
noncomputable def lastI (l : List Nat) : Int := match l.getLast? with | some d => (d : Int) | none => -1
/-- what holds ahead of turn k -/
structure DownK (par : List Int) (k : Nat) (down : List Nat) : Prop where
  len : par.length = k
  zero : 0 < k → par.getD 0 0 = -1
  lo : ∀ j, 1 ≤ j → j < k → 0 ≤ par.getD j 0
  hi : ∀ j, j < k → par.getD j 0 < j
  nest : ∀ i j : Nat, i < k → par.getD i 0 < j → j < i → par.getD i 0 ≤ par.getD j 0
  inc : down.Pairwise (· < ·)
  low : ∀ d ∈ down, d < k
  ne : 0 < k → down ≠ []
  und : ∀ d ∈ down, ∀ j, d < j → j < k → (d : Int) ≤ par.getD j 0
theorem DownK.nil : DownK [] 0 [] := ⟨rfl, by omega, by omega, by omega, by omega, List.Pairwise.nil, by simp, by omega, by simp⟩
theorem last_max {l : List Nat} (h : l.Pairwise (· < ·)) {a : Nat} (ha : l.getLast? = some a) : a ∈ l ∧ ∀ d ∈ l, d ≤ a := by
  have ham := List.mem_of_getLast? ha
  refine ⟨ham, fun d hd => ?_⟩
  obtain ⟨r, rfl⟩ : ∃ r, l = r ++ [a] := List.getLast?_eq_some_iff.mp ha
  rcases List.mem_append.mp hd with q | q
  · have := (List.pairwise_append.mp h).2.2 d q a List.mem_cons_self
    omega
  · rw [List.mem_singleton.mp q]; exact Nat.le_refl _
theorem DownK.step {par : List Int} {k : Nat} {down : List Nat} (h : DownK par k down) {t : Nat} (ht : 0 < k → 0 < t) : DownK (par ++ [lastI (down.take t)]) (k + 1) (down.take t ++ [k]) := by
  have hs : (down.take t).Sublist down := List.take_sublist _ _
  have hinc := h.inc.sublist hs
  have hlast : 0 < k → ∃ a, (down.take t).getLast? = some a := fun hk => by
    have hne : down.take t ≠ [] := by
      have := h.ne hk
      have := ht hk
      intro e
      have := congrArg List.length e
      rw [List.length_take] at this
      have h3 : 0 < down.length := List.length_pos_iff.mpr (h.ne hk)
      simp only [List.length_nil] at this
      omega
    exact ⟨_, List.getLast?_eq_some_getLast hne⟩
  have el : ∀ j, j < k → (par ++ [lastI (down.take t)]).getD j 0 = par.getD j 0 := fun j hj => getD_app_lt (by rw [h.len]; exact hj)
  have ek : (par ++ [lastI (down.take t)]).getD k 0 = lastI (down.take t) := getD_app_eq h.len.symm
  have hk0 : ∀ {a}, (down.take t).getLast? = some a → lastI (down.take t) = a ∧ a ∈ down ∧ a < k ∧ ∀ d ∈ down.take t, d ≤ a := fun {a} ha => by
    obtain ⟨h1, h2⟩ := last_max hinc ha
    exact ⟨by unfold lastI; rw [ha], hs.subset h1, h.low _ (hs.subset h1), h2⟩
  refine ⟨by simp [h.len], ?_, ?_, ?_, ?_, ?_, ?_, by simp, ?_⟩
  · intro _
    rcases Nat.eq_zero_or_pos k with q | q
    · subst q
      rw [ek]
      have : down = [] := List.eq_nil_iff_forall_not_mem.mpr fun d hd => by have := h.low d hd; omega
      subst this
      simp [lastI]
    · rw [el 0 q]; exact h.zero q
  · intro j h1 h2
    rcases Nat.lt_or_eq_of_le (Nat.lt_succ_iff.mp h2) with q | rfl
    · rw [el j q]; exact h.lo j h1 q
    · rw [ek]
      obtain ⟨a, ha⟩ := hlast (by omega)
      rw [(hk0 ha).1]; omega
  · intro j h2
    rcases Nat.lt_or_eq_of_le (Nat.lt_succ_iff.mp h2) with q | rfl
    · rw [el j q]; exact h.hi j q
    · rw [ek]
      rcases Nat.eq_zero_or_pos j with q | q
      · subst q
        have : down = [] := List.eq_nil_iff_forall_not_mem.mpr fun d hd => by have := h.low d hd; omega
        subst this
        simp [lastI]
      · obtain ⟨a, ha⟩ := hlast q
        have := hk0 ha
        rw [this.1]; omega
  · intro i j hi h1 h2
    rcases Nat.lt_or_eq_of_le (Nat.lt_succ_iff.mp hi) with q | rfl
    · rw [el i q] at h1 ⊢
      rw [el j (by omega)]
      exact h.nest i j q h1 h2
    · rw [ek] at h1 ⊢
      rw [el j h2]
      obtain ⟨a, ha⟩ := hlast (by omega)
      obtain ⟨e, hm, hl, _⟩ := hk0 ha
      rw [e] at h1 ⊢
      exact h.und a hm j (by omega) h2
  · refine List.pairwise_append.mpr ⟨hinc, List.pairwise_singleton _ _, fun a ha b hb => ?_⟩
    rw [List.mem_singleton.mp hb]; exact h.low a (hs.subset ha)
  · intro d hd
    rcases List.mem_append.mp hd with q | q
    · exact Nat.lt_succ_of_lt (h.low d (hs.subset q))
    · rw [List.mem_singleton.mp q]; exact Nat.lt_succ_self _
  · intro d hd j h1 h2
    rcases List.mem_append.mp hd with q | q
    · rcases Nat.lt_or_eq_of_le (Nat.lt_succ_iff.mp h2) with r | rfl
      · rw [el j r]; exact h.und d (hs.subset q) j h1 r
      · rw [ek]
        obtain ⟨a, ha⟩ := hlast (by omega)
        obtain ⟨e, _, _, hm⟩ := hk0 ha
        rw [e]
        have := hm d q
        omega
    · rw [List.mem_singleton.mp q] at h1; omega
theorem DownK.pre {par : List Int} {down : List Nat} (h : DownK par 9 down) : Pre par := ⟨h.len, h.zero (by decide), h.lo, h.hi, h.nest⟩
end Mine
/- P6 -/
namespace Mine
/-- a word's dress is written twice -/
noncomputable def txtOf (c : Nat) : List Nat := (List.replicate 2 (wordOf c ++ [32, 62, 34, 13, 10, 9])).flatten
noncomputable def headOf (k w : Nat) (t : List Nat) : List Nat := if w < 2 then 60 :: (112 + k) :: 62 :: t else [60, 112 + k, 32, 118, 61, 34] ++ t ++ [34, 62]
noncomputable def tailOf (k : Nat) : List Nat := [60, 47, 112 + k, 62]
noncomputable def kids (par : List Int) (k : Nat) : List Nat := (List.range' (k + 1) (8 - k)).filter fun j => decide (par.getD j 0 = (k : Int))
noncomputable def pageF (par : List Int) (hd : Nat → List Nat) : Nat → Nat → List Nat
  | 0, _ => []
  | n + 1, k => hd k ++ ((kids par k).flatMap (pageF par hd n) ++ tailOf k)
theorem flat_short {f : Nat → List Nat} {q : Nat → Bool} (hf : ∀ j, (f j).length ≤ 200 * 2 ^ (8 - j)) : ∀ m a, a + m = 9 → (((List.range' a m).filter q).flatMap f).length + 200 ≤ 200 * 2 ^ m
  | 0, a, h => by simp
  | m + 1, a, h => by
    have ih := flat_short (q := q) hf m (a + 1) (by omega)
    have h1 := hf a
    rw [show 8 - a = m by omega] at h1
    rw [List.range'_succ, List.filter_cons, Nat.pow_succ]
    split
    · rw [List.flatMap_cons, List.length_append]; omega
    · omega
theorem page_short {par : List Int} {hd : Nat → List Nat} (hh : ∀ k, (hd k).length ≤ 196) : ∀ n k, (pageF par hd n k).length ≤ 200 * 2 ^ (8 - k)
  | 0, k => by simp [pageF]
  | n + 1, k => by
    have h1 := hh k
    unfold pageF
    simp only [List.length_append, tailOf, List.length_cons, List.length_nil]
    by_cases hk : k ≤ 8
    · have h2 := flat_short (f := pageF par hd n) (q := fun j => decide (par.getD j 0 = (k : Int))) (page_short hh n) (8 - k) (k + 1) (by omega)
      unfold kids
      omega
    · have e : 8 - k = 0 := by omega
      unfold kids
      rw [e]
      simp
      omega
theorem page_bound {par : List Int} {hd : Nat → List Nat} (hh : ∀ k, (hd k).length ≤ 196) (n k : Nat) : (pageF par hd n k).length ≤ 51200 := by
  refine Nat.le_trans (page_short hh n k) ?_
  have : 2 ^ (8 - k) ≤ 2 ^ 8 := Nat.pow_le_pow_right (by decide) (Nat.sub_le _ _)
  omega
end Mine
/- P7 -/
namespace Mine
/-- what reading has told so far -/
structure St where
  pl : List Nat
  en : List Nat
  nm : List (List Nat)
  dn : List Nat
  at_ : Nat
noncomputable def skipOf (p : List Nat) : Nat := if (p.drop 1).take 1 = [62] then 2 else 5
noncomputable def rdStep (p : List Nat) (s : St) : Option St :=
  if p.take 1 = [47] then
    match s.dn.getLast? with
    | some d => if d < s.en.length then some ⟨s.pl, s.en.set d s.at_, s.nm, s.dn.dropLast, s.at_ + 1 + p.length⟩ else none
    | none => none
  else some ⟨s.pl ++ [s.at_ + 1 + skipOf p], s.en ++ [0], s.nm ++ [(splits 32 (p.drop (skipOf p))).headD []], s.dn ++ [s.pl.length], s.at_ + 1 + p.length⟩
noncomputable def rdAll : List (List Nat) → St → Option St
  | [], s => some s
  | p :: r, s => (rdStep p s).bind (rdAll r)
noncomputable def St0 : St := ⟨[], [], [], [], 0⟩
theorem rdStep_len {p : List Nat} {s s' : St} (h : rdStep p s = some s') : s'.pl.length ≤ s.pl.length + 1 ∧ s'.en.length ≤ s.en.length + 1 ∧ s'.nm.length ≤ s.nm.length + 1 ∧ s'.dn.length ≤ s.dn.length + 1 := by
  unfold rdStep at h
  split at h
  · split at h
    · split at h
      · cases h; simp; omega
      · cases h
    · cases h
  · cases h; simp
theorem rdAll_app : ∀ (a b : List (List Nat)) (s : St), rdAll (a ++ b) s = (rdAll a s).bind (rdAll b)
  | [], b, s => rfl
  | p :: r, b, s => by
    show (rdStep p s).bind (rdAll (r ++ b)) = ((rdStep p s).bind (rdAll r)).bind (rdAll b)
    cases rdStep p s with
    | none => rfl
    | some s' => exact rdAll_app r b s'
end Mine
/- P8 -/
namespace Mine
/-- p holds x -/
noncomputable def Anc (par : List Int) (p x : Nat) : Prop := p ≤ x ∧ ∀ i, p < i → i ≤ x → (p : Int) ≤ par.getD i 0
section
variable {par : List Int}
theorem Anc.refl (x : Nat) : Anc par x x := ⟨Nat.le_refl _, fun i h1 h2 => by omega⟩
theorem Anc.trans {p q x : Nat} (h : Anc par p q) (h' : Anc par q x) : Anc par p x := by
  refine ⟨Nat.le_trans h.1 h'.1, fun i h1 h2 => ?_⟩
  by_cases hi : i ≤ q
  · exact h.2 i h1 hi
  · have := h'.2 i (by omega) h2
    have := h.1
    omega
theorem Anc.mid {p y x : Nat} (h : Anc par p x) (h1 : p ≤ y) (h2 : y ≤ x) : Anc par p y := ⟨h1, fun i a b => h.2 i a (by omega)⟩
/-- the element that holds x next -/
noncomputable def up (par : List Int) (x : Nat) : Nat := (par.getD x 0).toNat
theorem up_is (hp : Pre par) {x : Nat} (h0 : 0 < x) (h9 : x < 9) : (up par x : Int) = par.getD x 0 ∧ up par x < x := by
  have h1 := hp.lo x h0 h9
  have h2 := hp.hi x h9
  unfold up
  omega
theorem Anc.up (hp : Pre par) {x : Nat} (h0 : 0 < x) (h9 : x < 9) : Anc par (up par x) x := by
  obtain ⟨e, hl⟩ := up_is hp h0 h9
  refine ⟨Nat.le_of_lt hl, fun i h1 h2 => ?_⟩
  rcases Nat.lt_or_eq_of_le h2 with q | rfl
  · rw [e]; exact hp.nest x i h9 (by omega) q
  · omega
theorem Anc.le_up (hp : Pre par) {p x : Nat} (h : Anc par p x) (hx : p < x) (h9 : x < 9) : p ≤ Mine.up par x ∧ Anc par p (Mine.up par x) := by
  obtain ⟨e, hl⟩ := up_is hp (by omega) h9
  have := h.2 x hx (Nat.le_refl _)
  have h1 : p ≤ Mine.up par x := by omega
  exact ⟨h1, h.mid h1 (Nat.le_of_lt hl)⟩
theorem Anc.step (hp : Pre par) {p x : Nat} (hx : p < x) (h9 : x < 9) : Anc par p x ↔ Anc par p (Mine.up par x) :=
  ⟨fun h => (h.le_up hp hx h9).2, fun h => h.trans (Anc.up hp (by omega) h9)⟩
theorem Anc.root (hp : Pre par) {x : Nat} (h9 : x < 9) : Anc par 0 x := ⟨Nat.zero_le _, fun i h1 h2 => hp.lo i h1 (by omega)⟩
theorem Anc.anti {p x : Nat} (h : Anc par p x) (h' : Anc par x p) : p = x := Nat.le_antisymm h.1 h'.1
/-- a child on the way down -/
theorem Anc.child (hp : Pre par) : ∀ (n : Nat) {p x : Nat}, x ≤ n → Anc par p x → p < x → x < 9 → ∃ c, p < c ∧ c < 9 ∧ par.getD c 0 = (p : Int) ∧ Anc par c x
  | 0, p, x, hn, h, hl, h9 => by omega
  | n + 1, p, x, hn, h, hl, h9 => by
    obtain ⟨e, hu⟩ := up_is hp (by omega) h9
    obtain ⟨h1, h2⟩ := h.le_up hp hl h9
    rcases Nat.lt_or_eq_of_le h1 with q | q
    · obtain ⟨c, a, b, d, f⟩ := Anc.child hp n (by omega) h2 q (by omega)
      exact ⟨c, a, b, d, f.trans (Anc.up hp (by omega) h9)⟩
    · exact ⟨x, hl, h9, by rw [← e, ← q], Anc.refl x⟩
/-- the inside of an element -/
theorem mem_ins (hp : Pre par) {k : Nat} : ∀ m, k + m < 9 → ∀ j, j ∈ (List.range' (k + 1) m).foldl (insStep par) [k] ↔ (k ≤ j ∧ j ≤ k + m ∧ Anc par k j)
  | 0, h, j => by
    simp only [List.range'_zero, List.foldl_nil, List.mem_singleton]
    constructor
    · rintro rfl; exact ⟨Nat.le_refl _, Nat.le_refl _, Anc.refl _⟩
    · rintro ⟨a, b, _⟩; omega
  | m + 1, h, j => by
    have ih := mem_ins hp (k := k) m (by omega)
    rw [List.range'_concat, List.foldl_append]
    simp only [List.foldl_cons, List.foldl_nil, Nat.one_mul]
    generalize (List.range' (k + 1) m).foldl (insStep par) [k] = acc at ih
    have e1 : k + 1 + m = k + (m + 1) := by omega
    rw [e1]
    obtain ⟨eu, hu⟩ := up_is hp (x := k + (m + 1)) (by omega) h
    have hiff : par.getD (k + (m + 1)) 0 ∈ acc.map (fun (i : Nat) => (i : Int)) ↔ Anc par k (k + (m + 1)) := by
      rw [List.mem_map, Anc.step hp (by omega) h]
      constructor
      · rintro ⟨i, hi, e⟩
        have : i = Mine.up par (k + (m + 1)) := by omega
        subst this
        exact ((ih _).mp hi).2.2
      · intro ha
        exact ⟨_, (ih _).mpr ⟨ha.1, by omega, ha⟩, eu⟩
    unfold insStep
    split
    · rename_i hc
      rw [List.mem_append, ih, List.mem_singleton]
      constructor
      · rintro (⟨a, b, c⟩ | rfl)
        · exact ⟨a, by omega, c⟩
        · exact ⟨by omega, Nat.le_refl _, hiff.mp hc⟩
      · rintro ⟨a, b, c⟩
        rcases Nat.lt_or_eq_of_le b with q | q
        · exact .inl ⟨a, by omega, c⟩
        · exact .inr q
    · rename_i hc
      rw [ih]
      constructor
      · rintro ⟨a, b, c⟩; exact ⟨a, by omega, c⟩
      · rintro ⟨a, b, c⟩
        rcases Nat.lt_or_eq_of_le b with q | rfl
        · exact ⟨a, by omega, c⟩
        · exact absurd (hiff.mpr c) hc
theorem mem_inside (hp : Pre par) {k : Nat} (hk : k < 9) (j : Nat) : j ∈ insideF par k ↔ (j < 9 ∧ Anc par k j) := by
  unfold insideF
  rw [mem_ins hp (8 - k) (by omega)]
  constructor
  · rintro ⟨a, b, c⟩; exact ⟨by omega, c⟩
  · rintro ⟨a, c⟩; exact ⟨c.1, by omega, c⟩
/-- a part has a word -/
noncomputable def KindIn (par : List Int) (Wc : List Nat) (c k : Nat) : Prop := ∃ j, j < 9 ∧ Anc par k j ∧ Wc.getD j 0 % 4 = c
theorem KindIn.upward {Wc : List Nat} {c p k : Nat} (h : KindIn par Wc c k) (ha : Anc par p k) : KindIn par Wc c p := by
  obtain ⟨j, a, b, d⟩ := h
  exact ⟨j, a, ha.trans b, d⟩
theorem low_kind : ∀ c d, c < 8 → d < 3 → (lowW c = lowW d ↔ c % 4 = d) := by
  have h : ∀ c : Fin 8, ∀ d : Fin 3, (lowW c.val = lowW d.val ↔ c.val % 4 = d.val) := by decide
  exact fun c d hc hd => h ⟨c, hc⟩ ⟨d, hd⟩
theorem mem_kinds (hp : Pre par) {Wc : List Nat} (lW : Wc.length = 9) (hW : ∀ c ∈ Wc, c < 8) {k d : Nat} (hk : k < 9) (hd : d < 3) : lowW d ∈ kindsF par Wc k ↔ KindIn par Wc d k := by
  have hw : ∀ j, j < 9 → Wc.getD j 0 < 8 := fun j hj => by
    rw [List.getD_eq_getElem?_getD, List.getElem?_eq_getElem (by omega)]; exact hW _ (List.getElem_mem _)
  unfold kindsF
  rw [List.mem_map]
  constructor
  · rintro ⟨j, hj, e⟩
    obtain ⟨h9, ha⟩ := (mem_inside hp hk j).mp hj
    exact ⟨j, h9, ha, (low_kind _ _ (hw j h9) hd).mp e⟩
  · rintro ⟨j, h9, ha, e⟩
    exact ⟨j, (mem_inside hp hk j).mpr ⟨h9, ha⟩, (low_kind _ _ (hw j h9) hd).mpr e⟩
/-- a part has all three -/
noncomputable def Whole (par : List Int) (Wc : List Nat) (k : Nat) : Prop := KindIn par Wc 0 k ∧ KindIn par Wc 1 k ∧ KindIn par Wc 2 k
theorem Whole.upward {Wc : List Nat} {p k : Nat} (h : Whole par Wc k) (ha : Anc par p k) : Whole par Wc p := ⟨h.1.upward ha, h.2.1.upward ha, h.2.2.upward ha⟩
theorem has3_iff (hp : Pre par) {Wc : List Nat} (lW : Wc.length = 9) (hW : ∀ c ∈ Wc, c < 8) {k : Nat} (hk : k < 9) : has3 (kindsF par Wc k) = true ↔ Whole par Wc k := by
  unfold has3 Whole
  rw [← mem_kinds hp lW hW hk (d := 0) (by decide), ← mem_kinds hp lW hW hk (d := 1) (by decide), ← mem_kinds hp lW hW hk (d := 2) (by decide)]
  simp only [Bool.and_eq_true, decide_eq_true_eq]
  rfl
theorem mem_whole (hp : Pre par) {Wc : List Nat} (lW : Wc.length = 9) (hW : ∀ c ∈ Wc, c < 8) (k : Nat) : k ∈ wholeF par Wc ↔ (k < 9 ∧ Whole par Wc k) := by
  unfold wholeF
  rw [List.mem_filter]
  constructor
  · rintro ⟨h1, h2⟩
    have : k < 9 := by have := List.mem_range'.mp h1; omega
    exact ⟨this, (has3_iff hp lW hW this).mp h2⟩
  · rintro ⟨h1, h2⟩
    exact ⟨List.mem_range'.mpr ⟨k, h1, by omega⟩, (has3_iff hp lW hW h1).mpr h2⟩
/-- where climbing ends -/
structure Deep (par : List Int) (P : Nat → Prop) (x : Nat) (r : Int) : Prop where
  low : -1 ≤ r
  is : 0 ≤ r → Anc par r.toNat x ∧ P r.toNat
  top : ∀ p, Anc par p x → P p → (p : Int) ≤ r
theorem Deep.unique {P : Nat → Prop} {x : Nat} {r s : Int} (h : Deep par P x r) (h' : Deep par P x s) : r = s := by
  have key : ∀ {r s : Int}, Deep par P x r → Deep par P x s → r ≤ s := fun {r s} h h' => by
    by_cases h0 : 0 ≤ r
    · obtain ⟨a, b⟩ := h.is h0
      have := h'.top _ a b
      omega
    · have := h'.low
      omega
  have := key h h'
  have := key h' h
  omega
theorem climb_deep (hp : Pre par) {wh : List Nat} : ∀ (n : Nat) (q : Int), -1 ≤ q → q < 9 → q + 1 ≤ n → (0 ≤ q → Deep par (· ∈ wh) q.toNat (climbF par wh n q)) ∧ (q < 0 → climbF par wh n q = -1)
  | 0, q, h1, h2, h3 => by
    refine ⟨fun h => by omega, fun h => ?_⟩
    unfold climbF; omega
  | n + 1, q, h1, h2, h3 => by
    unfold climbF
    refine ⟨fun h0 => ?_, fun h0 => by rw [if_neg (by omega)]; omega⟩
    split
    · rename_i hc
      have hlt : q.toNat < 9 := by omega
      have a1 := hp.low hlt
      have a2 := hp.hi _ hlt
      obtain ⟨i1, i2⟩ := climb_deep hp (wh := wh) n (par.getD q.toNat 0) a1 (by omega) (by omega)
      by_cases hneg : 0 ≤ par.getD q.toNat 0
      · have hq0 : 0 < q.toNat := by
          rcases Nat.eq_zero_or_pos q.toNat with e | e
          · rw [e, hp.zero] at hneg; omega
          · exact e
        have D := i1 hneg
        have hu := Anc.up hp hq0 hlt
        refine ⟨D.low, fun h => ?_, fun p ha hpw => ?_⟩
        · obtain ⟨b1, b2⟩ := D.is h
          exact ⟨b1.trans hu, b2⟩
        · have hne : p ≠ q.toNat := fun e => hc.2 (e ▸ hpw)
          have := ha.1
          exact D.top p (ha.le_up hp (by omega) hlt).2 hpw
      · rw [i2 (by omega)]
        refine ⟨Int.le_refl _, fun h => by omega, fun p ha hpw => ?_⟩
        have hq0 : q.toNat = 0 := by
          rcases Nat.eq_zero_or_pos q.toNat with e | e
          · exact e
          · have := hp.lo _ e hlt; omega
        have := ha.1
        have : p = q.toNat := by omega
        exact absurd (this ▸ hpw) hc.2
    · rename_i hc
      have hm : q.toNat ∈ wh := Classical.byContradiction fun h => hc ⟨h0, h⟩
      refine ⟨by omega, fun _ => ⟨Anc.refl _, hm⟩, fun p ha _ => ?_⟩
      have := ha.1
      omega
theorem part_deep (hp : Pre par) {wh : List Nat} {x : Nat} (hx : x < 9) : Deep par (· ∈ wh) x (partOf par wh x) := by
  have := (climb_deep hp (wh := wh) (x + 1) (x : Int) (by omega) (by omega) (by omega)).1 (by omega)
  rwa [Int.toNat_natCast] at this
end
end Mine
/- P11 -/
namespace Mine
/- a page is its tokens -/
noncomputable def clP (k : Nat) : List Nat := [47, 112 + k, 62]
noncomputable def toks (par : List Int) (hp : Nat → List Nat) : Nat → Nat → List (List Nat)
  | 0, _ => []
  | n + 1, k => hp k :: ((kids par k).flatMap (toks par hp n) ++ [clP k])
theorem page_toks (par : List Int) (hp : Nat → List Nat) : ∀ n k, pageF par (fun k => 60 :: hp k) n k = (toks par hp n k).flatMap (fun p => 60 :: p)
  | 0, k => rfl
  | n + 1, k => by
    unfold pageF toks
    rw [List.flatMap_cons, List.flatMap_append, List.flatMap_assoc]
    have e : (kids par k).flatMap (pageF par (fun k => 60 :: hp k) n) = (kids par k).flatMap (fun j => (toks par hp n j).flatMap (fun p => 60 :: p)) := by
      congr 1
      funext j
      exact page_toks par hp n j
    rw [e]
    rfl
theorem splits_toks {c : Nat} : ∀ (ps : List (List Nat)) (q : List Nat), c ∉ q → (∀ p ∈ ps, c ∉ p) → splits c (q ++ ps.flatMap (fun p => c :: p)) = q :: ps
  | [], q, hq, _ => by rw [List.flatMap_nil, List.append_nil]; exact splits_free hq
  | p :: r, q, hq, h => by
    rw [List.flatMap_cons]
    show splits c (q ++ c :: (p ++ _)) = _
    rw [splits_cat hq, splits_toks r p (h p List.mem_cons_self) fun x hx => h x (List.mem_cons_of_mem _ hx)]
theorem toks_all {par : List Int} {hp : Nat → List Nat} {P : List Nat → Prop} (h1 : ∀ k, k < 9 → P (hp k)) (h2 : ∀ k, k < 9 → P (clP k)) : ∀ n k, k < 9 → ∀ p ∈ toks par hp n k, P p
  | 0, k, hk, p, hm => nomatch hm
  | n + 1, k, hk, p, hm => by
    unfold toks at hm
    rcases List.mem_cons.mp hm with rfl | hm
    · exact h1 k hk
    · rcases List.mem_append.mp hm with hm | hm
      · obtain ⟨j, hj, hm⟩ := List.mem_flatMap.mp hm
        have hj9 : j < 9 := by
          have := List.mem_range'.mp (List.mem_filter.mp hj).1
          omega
        exact toks_all h1 h2 n j hj9 p hm
      · rw [List.mem_singleton.mp hm]; exact h2 k hk
theorem rd_at : ∀ (ps : List (List Nat)) {s s' : St}, rdAll ps s = some s' → s'.at_ = s.at_ + (ps.flatMap (fun p => 60 :: p)).length
  | [], s, s', h => by cases h; simp
  | p :: r, s, s', h => by
    obtain ⟨s1, h1, h2⟩ : ∃ s1, rdStep p s = some s1 ∧ rdAll r s1 = some s' := by
      unfold rdAll at h
      cases e : rdStep p s with
      | none => rw [e] at h; cases h
      | some s1 => rw [e] at h; exact ⟨s1, rfl, h⟩
    have ih := rd_at r h2
    have e : s1.at_ = s.at_ + 1 + p.length := by
      unfold rdStep at h1
      split at h1
      · split at h1
        · split at h1
          · cases h1; rfl
          · cases h1
        · cases h1
      · cases h1; rfl
    rw [ih, e, List.flatMap_cons, List.length_append, List.length_cons]
    omega
/-- where an element ends, counted in elements -/
structure EndOf (par : List Int) (k e : Nat) : Prop where
  lt : k < e
  le : e ≤ 9
  ins : ∀ j, k < j → j < e → (k : Int) ≤ par.getD j 0
  stop : e < 9 → par.getD e 0 < (k : Int)
theorem EndOf.find {par : List Int} {k : Nat} : ∀ (m j : Nat), j + m = 9 → k < j → (∀ i, k < i → i < j → (k : Int) ≤ par.getD i 0) → ∃ e, EndOf par k e
  | 0, j, h, hk, hi => ⟨j, hk, by omega, hi, fun h => by omega⟩
  | m + 1, j, h, hk, hi => by
    by_cases hj : par.getD j 0 < (k : Int)
    · exact ⟨j, hk, by omega, hi, fun _ => hj⟩
    · refine EndOf.find m (j + 1) (by omega) (by omega) fun i h1 h2 => ?_
      rcases Nat.lt_or_eq_of_le (Nat.lt_succ_iff.mp h2) with q | rfl
      · exact hi i h1 q
      · omega
theorem EndOf.anc {par : List Int} {k e y : Nat} (h : EndOf par k e) (h1 : k ≤ y) (h2 : y < e) : Anc par k y := ⟨h1, fun i a b => h.ins i a (by omega)⟩
/-- what reading the elements from a to b has told -/
structure Res (par : List Int) (nmF : Nat → List Nat) (a b : Nat) (s s' : St) : Prop where
  ab : a ≤ b
  lp : s'.pl.length = b
  le : s'.en.length = b
  ln : s'.nm.length = b
  dn : s'.dn = s.dn
  kp : ∀ i, i < a → s'.pl.getD i 0 = s.pl.getD i 0
  ke : ∀ i, i < a → s'.en.getD i 0 = s.en.getD i 0
  kn : ∀ i, i < a → s'.nm.getD i [] = s.nm.getD i []
  hat : s.at_ ≤ s'.at_
  ip : ∀ x, a ≤ x → x < b → s.at_ < s'.pl.getD x 0 ∧ s'.pl.getD x 0 < s'.en.getD x 0 ∧ s'.en.getD x 0 < s'.at_
  inc : ∀ x y, a ≤ x → x < y → y < b → s'.pl.getD x 0 < s'.pl.getD y 0
  inn : ∀ x y, a ≤ x → x < y → y < b → Anc par x y → s'.pl.getD y 0 < s'.en.getD x 0
  out : ∀ x y, a ≤ x → x < y → y < b → ¬ Anc par x y → s'.en.getD x 0 < s'.pl.getD y 0
  nm : ∀ x, a ≤ x → x < b → s'.nm.getD x [] = nmF x
theorem Res.nil {par : List Int} {nmF : Nat → List Nat} {a : Nat} {s : St} (h1 : s.pl.length = a) (h2 : s.en.length = a) (h3 : s.nm.length = a) : Res par nmF a a s s :=
  ⟨Nat.le_refl _, h1, h2, h3, rfl, fun _ _ => rfl, fun _ _ => rfl, fun _ _ => rfl, Nat.le_refl _, fun x a b => by omega, fun x y a b c => by omega, fun x y a b c => by omega, fun x y a b c => by omega, fun x a b => by omega⟩
theorem Res.comp {par : List Int} {nmF : Nat → List Nat} {a b c : Nat} {s s1 s2 : St} (h : Res par nmF a b s s1) (h' : Res par nmF b c s1 s2) (hd : ∀ x y, a ≤ x → x < b → b ≤ y → y < c → ¬ Anc par x y) : Res par nmF a c s s2 := by
  have hab := h.ab
  have hbc := h'.ab
  have hat1 := h.hat
  have hat2 := h'.hat
  refine ⟨by omega, h'.lp, h'.le, h'.ln, by rw [h'.dn, h.dn], fun i hi => ?_, fun i hi => ?_, fun i hi => ?_, by omega, fun x h1 h2 => ?_, fun x y h1 h2 h3 => ?_, fun x y h1 h2 h3 ha => ?_, fun x y h1 h2 h3 ha => ?_, fun x h1 h2 => ?_⟩
  · rw [h'.kp i (by omega), h.kp i hi]
  · rw [h'.ke i (by omega), h.ke i hi]
  · rw [h'.kn i (by omega), h.kn i hi]
  · by_cases q : x < b
    · rw [h'.kp x q, h'.ke x q]
      have := h.ip x h1 q
      omega
    · have := h'.ip x (by omega) h2
      omega
  · by_cases q : y < b
    · rw [h'.kp x (by omega), h'.kp y q]; exact h.inc x y h1 h2 q
    · by_cases r : x < b
      · rw [h'.kp x r]
        have := h.ip x h1 r
        have := h'.ip y (by omega) h3
        omega
      · exact h'.inc x y (by omega) h2 h3
  · by_cases q : y < b
    · rw [h'.kp y q, h'.ke x (by omega)]; exact h.inn x y h1 h2 q ha
    · by_cases r : x < b
      · exact absurd ha (hd x y h1 r (by omega) h3)
      · exact h'.inn x y (by omega) h2 h3 ha
  · by_cases q : y < b
    · rw [h'.kp y q, h'.ke x (by omega)]; exact h.out x y h1 h2 q ha
    · by_cases r : x < b
      · rw [h'.ke x r]
        have := h.ip x h1 r
        have := h'.ip y (by omega) h3
        omega
      · exact h'.out x y (by omega) h2 h3 ha
  · by_cases q : x < b
    · rw [h'.kn x q]; exact h.nm x h1 q
    · exact h'.nm x (by omega) h2
/-- what the pieces of the elements are like -/
structure PieceOk (hp : Nat → List Nat) (nmF : Nat → List Nat) (k : Nat) : Prop where
  op : (hp k).take 1 ≠ [47]
  sk : skipOf (hp k) < (hp k).length
  nm : (splits 32 ((hp k).drop (skipOf (hp k)))).headD [] = nmF k
theorem rd_open {hp nmF : Nat → List Nat} {k : Nat} (h : PieceOk hp nmF k) (s : St) : rdStep (hp k) s = some ⟨s.pl ++ [s.at_ + 1 + skipOf (hp k)], s.en ++ [0], s.nm ++ [nmF k], s.dn ++ [s.pl.length], s.at_ + 1 + (hp k).length⟩ := by
  unfold rdStep
  rw [if_neg h.op, h.nm]
theorem rd_close {k : Nat} {s : St} {d : List Nat} (hd : s.dn = d ++ [k]) (hk : k < s.en.length) : rdStep (clP k) s = some ⟨s.pl, s.en.set k s.at_, s.nm, d, s.at_ + 4⟩ := by
  unfold rdStep
  rw [if_pos (show (clP k).take 1 = [47] from rfl), hd, List.getLast?_append]
  simp [hk, clP]
theorem getD_set_ne {l : List Nat} {i j v d : Nat} (h : i ≠ j) : (l.set i v).getD j d = l.getD j d := by
  rw [List.getD_eq_getElem?_getD, List.getElem?_set_ne h, ← List.getD_eq_getElem?_getD]
theorem getD_set_eq {l : List Nat} {i v d : Nat} (h : i < l.length) : (l.set i v).getD i d = v := by
  rw [List.getD_eq_getElem?_getD, List.getElem?_set_self h]; rfl
theorem Res.node {par : List Int} {hp nmF : Nat → List Nat} {k e : Nat} {s s2 : St} (E : EndOf par k e) (hok : PieceOk hp nmF k) (l1 : s.pl.length = k) (l2 : s.en.length = k) (l3 : s.nm.length = k)
    (h : Res par nmF (k + 1) e ⟨s.pl ++ [s.at_ + 1 + skipOf (hp k)], s.en ++ [0], s.nm ++ [nmF k], s.dn ++ [s.pl.length], s.at_ + 1 + (hp k).length⟩ s2) :
    rdStep (clP k) s2 = some ⟨s2.pl, s2.en.set k s2.at_, s2.nm, s.dn, s2.at_ + 4⟩ ∧ Res par nmF k e s ⟨s2.pl, s2.en.set k s2.at_, s2.nm, s.dn, s2.at_ + 4⟩ := by
  have hsk := hok.sk
  have hdn : s2.dn = s.dn ++ [k] := by rw [h.dn]; dsimp only; rw [l1]
  have hke : k < s2.en.length := by rw [h.le]; exact E.lt
  have hatt : s.at_ + 1 + (hp k).length ≤ s2.at_ := h.hat
  have hpk : s2.pl.getD k 0 = s.at_ + 1 + skipOf (hp k) := by
    rw [h.kp k (Nat.lt_succ_self _)]; exact getD_app_eq l1.symm
  have hnk : s2.nm.getD k [] = nmF k := by
    rw [h.kn k (Nat.lt_succ_self _)]; exact getD_app_eq l3.symm
  refine ⟨rd_close hdn hke, ?_⟩
  have hlt := E.lt
  have ip : ∀ x, k + 1 ≤ x → x < e → s.at_ + 1 + (hp k).length < s2.pl.getD x 0 ∧ s2.pl.getD x 0 < s2.en.getD x 0 ∧ s2.en.getD x 0 < s2.at_ := h.ip
  refine ⟨Nat.le_of_lt hlt, h.lp, by dsimp only; rw [List.length_set]; exact h.le, h.ln, rfl, fun i hi => ?_, fun i hi => ?_, fun i hi => ?_, by dsimp only; omega, fun x h1 h2 => ?_, fun x y h1 h2 h3 => ?_, fun x y h1 h2 h3 ha => ?_, fun x y h1 h2 h3 ha => ?_, fun x h1 h2 => ?_⟩ <;> dsimp only
  · rw [h.kp i (by omega)]; exact getD_app_lt (by omega)
  · rw [getD_set_ne (by omega), h.ke i (by omega)]; exact getD_app_lt (by omega)
  · rw [h.kn i (by omega)]; exact getD_app_lt (by omega)
  · by_cases q : x = k
    · subst q
      rw [hpk, getD_set_eq hke]; omega
    · rw [getD_set_ne (by omega)]
      have := ip x (by omega) h2
      omega
  · by_cases q : x = k
    · subst q
      have := ip y (by omega) h3
      rw [hpk]; omega
    · exact h.inc x y (by omega) h2 h3
  · by_cases q : x = k
    · subst q
      rw [getD_set_eq hke]
      have := ip y (by omega) h3
      omega
    · rw [getD_set_ne (by omega)]; exact h.inn x y (by omega) h2 h3 ha
  · by_cases q : x = k
    · subst q
      exact absurd (E.anc (Nat.le_of_lt h2) h3) ha
    · rw [getD_set_ne (by omega)]; exact h.out x y (by omega) h2 h3 ha
  · by_cases q : x = k
    · subst q; exact hnk
    · exact h.nm x (by omega) h2
end Mine
/- P12 -/
namespace Mine
section
variable {par : List Int} {hp nmF : Nat → List Nat}
/-- the elements right in k, from j on -/
noncomputable def kidsFrom (par : List Int) (k j : Nat) : List Nat := (List.range' j (9 - j)).filter fun i => decide (par.getD i 0 = (k : Int))
theorem kidsFrom_end (hP : Pre par) {k e : Nat} (E : EndOf par k e) : kidsFrom par k e = [] := by
  unfold kidsFrom
  rw [List.filter_eq_nil_iff]
  intro i hi
  have hi' := List.mem_range'.mp hi
  rw [decide_eq_true_eq]
  intro h
  have hlt := E.lt
  have hs := E.stop (by omega)
  by_cases q : i = e
  · subst q; omega
  · have := hP.nest i e (by omega) (by omega) (by omega)
    omega
theorem kidsFrom_next (hP : Pre par) {k j e' : Nat} (hkj : k < j) (hj : par.getD j 0 = (k : Int)) (E : EndOf par j e') : kidsFrom par k j = j :: kidsFrom par k e' := by
  unfold kidsFrom
  have hlt := E.lt
  have hle := E.le
  have e1 : 9 - j = 1 + ((e' - j - 1) + (9 - e')) := by omega
  rw [e1, ← List.range'_append_1, ← List.range'_append_1, List.filter_append, List.filter_append]
  have e2 : j + 1 + (e' - j - 1) = e' := by omega
  rw [e2]
  have e3 : (List.range' j 1).filter (fun i => decide (par.getD i 0 = (k : Int))) = [j] := by
    show [j].filter _ = [j]
    rw [List.filter_cons_of_pos (by simpa using hj)]; rfl
  have e4 : (List.range' (j + 1) (e' - j - 1)).filter (fun i => decide (par.getD i 0 = (k : Int))) = [] := by
    rw [List.filter_eq_nil_iff]
    intro i hi
    have hi' := List.mem_range'.mp hi
    rw [decide_eq_true_eq]
    intro h
    have := E.ins i (by omega) (by omega)
    omega
  rw [e3, e4]; rfl
theorem rd_forest (hP : Pre par) {k e n : Nat} (E : EndOf par k e)
    (node : ∀ j e', k < j → EndOf par j e' → ∀ s : St, s.pl.length = j → s.en.length = j → s.nm.length = j → ∃ s', rdAll (toks par hp n j) s = some s' ∧ Res par nmF j e' s s') :
    ∀ m j, k < j → j ≤ e → e - j ≤ m → (j < e → par.getD j 0 = (k : Int)) → ∀ s : St, s.pl.length = j → s.en.length = j → s.nm.length = j →
      ∃ s', rdAll ((kidsFrom par k j).flatMap (toks par hp n)) s = some s' ∧ Res par nmF j e s s'
  | 0, j, hkj, hje, hm, hpj, s, l1, l2, l3 => by
    have : j = e := by omega
    subst this
    rw [kidsFrom_end hP E]
    exact ⟨s, rfl, Res.nil l1 l2 l3⟩
  | m + 1, j, hkj, hje, hm, hpj, s, l1, l2, l3 => by
    rcases Nat.lt_or_eq_of_le hje with q | q
    · have hpj := hpj q
      obtain ⟨e', E'⟩ := EndOf.find (par := par) (k := j) (9 - (j + 1)) (j + 1) (by have := E.le; omega) (Nat.lt_succ_self _) fun i h1 h2 => by omega
      have hlt' := E'.lt
      have hle' := E'.le
      have hee : e' ≤ e := by
        by_cases r : e' ≤ e
        · exact r
        · have h1 := E'.ins e q (by omega)
          have h2 := E.stop (by omega)
          omega
      have hpe : e' < e → par.getD e' 0 = (k : Int) := fun r => by
        have h1 := E.ins e' (by omega) r
        have h2 := E'.stop (by have := E.le; omega)
        by_cases c : par.getD e' 0 = (k : Int)
        · exact c
        · have h3 := hP.nest e' j (by have := E.le; omega) h2 hlt'
          omega
      obtain ⟨s1, r1, R1⟩ := node j e' hkj E' s l1 l2 l3
      obtain ⟨s2, r2, R2⟩ := rd_forest hP E node m e' (by omega) hee (by omega) hpe s1 R1.lp R1.le R1.ln
      refine ⟨s2, ?_, R1.comp R2 ?_⟩
      · rw [kidsFrom_next hP hkj hpj E', List.flatMap_cons, rdAll_app, r1]; exact r2
      · intro x y h1 h2 h3 h4 ha
        have := ha.2 e' h2 h3
        have := E'.stop (by have := E.le; omega)
        omega
    · subst q
      rw [kidsFrom_end hP E]
      exact ⟨s, rfl, Res.nil l1 l2 l3⟩
theorem rd_node (hP : Pre par) (hok : ∀ k, k < 9 → PieceOk hp nmF k) : ∀ n k e, 9 - k ≤ n → EndOf par k e → ∀ s : St, s.pl.length = k → s.en.length = k → s.nm.length = k →
    ∃ s', rdAll (toks par hp n k) s = some s' ∧ Res par nmF k e s s'
  | 0, k, e, hn, E, s, l1, l2, l3 => by have := E.lt; have := E.le; omega
  | n + 1, k, e, hn, E, s, l1, l2, l3 => by
    have hlt := E.lt
    have hle := E.le
    have ho := hok k (by omega)
    obtain ⟨s2, r2, R2⟩ := rd_forest (nmF := nmF) (hp := hp) (n := n) hP E (fun j e' hkj E' s a b c => rd_node hP hok n j e' (by omega) E' s a b c) (e - (k + 1)) (k + 1) (Nat.lt_succ_self _) (by omega) (Nat.le_refl _)
      (fun h => by have h1 := E.ins (k + 1) (by omega) h; have h2 := hP.hi (k + 1) (by omega); omega)
      ⟨s.pl ++ [s.at_ + 1 + skipOf (hp k)], s.en ++ [0], s.nm ++ [nmF k], s.dn ++ [s.pl.length], s.at_ + 1 + (hp k).length⟩ (by simp [l1]) (by simp [l2]) (by simp [l3])
    obtain ⟨c1, R⟩ := Res.node E ho l1 l2 l3 R2
    refine ⟨_, ?_, R⟩
    unfold toks
    show (rdStep (hp k) s).bind (rdAll _) = _
    rw [rd_open ho]
    show rdAll ((kids par k).flatMap (toks par hp n) ++ [clP k]) _ = _
    have ek : kids par k = kidsFrom par k (k + 1) := by unfold kids kidsFrom; rw [show 9 - (k + 1) = 8 - k by omega]
    rw [ek, rdAll_app, r2]
    show (rdStep (clP k) s2).bind (rdAll []) = _
    rw [c1]; rfl
theorem rd_page (hP : Pre par) (hok : ∀ k, k < 9 → PieceOk hp nmF k) : ∃ s, rdAll (toks par hp 9 0) St0 = some s ∧ Res par nmF 0 9 St0 s := by
  refine rd_node hP hok 9 0 9 (by omega) ⟨by decide, by decide, fun j h1 h2 => hP.lo j h1 h2, fun h => absurd h (by decide)⟩ St0 rfl rfl rfl
end
end Mine
end
namespace Mine
open PySem PySem.W PySem.Calls PyProof.Rows
local macro_rules | `(tactic| kt_at_get) => `(tactic| exact kind_of (by with_reducible assumption) (by rfl))
local macro_rules | `(tactic| kt_at_method) => do
  let g ← `(tactic| (case k1 => kt_at_get))
  let z ← `(tactic| (case k2 => rfl))
  let y ← `(tactic| (case k3 => rfl))
  let ex := fun (t : Lean.TSyntax `tactic) (n : Lean.Name) => do
    let i := Lean.mkIdent n
    `(tactic| first | exact $i | $t:tactic)
  let b ← `(tactic| fail)
  let b ← List.foldlM ex b [``bb_type, ``bb_list, ``bb_sum, ``bb_max, ``bb_min, ``bb_int, ``bb_str, ``bb_range, ``bb_len]
  `(tactic| first
  | ((with_reducible refine' W.name ?n1 ?k2); $z:tactic;
     first
     | ((with_reducible refine' W.loadLocal ?k1 ?k2 ?_); $g:tactic; $z:tactic)
     | ((with_reducible refine' W.loadCell ?k1 ?k2 ?_); $g:tactic; $z:tactic)
     | ((with_reducible refine' W.loadFree ?k1 ?k2 ?_ ?k3); $g:tactic; $z:tactic; $y:tactic))
  | ((with_reducible refine' W.globalR ?k1 ?k2 ?_ ?k3); $g:tactic; $z:tactic; $y:tactic)
  | ((with_reducible refine' W.builtinB ?k3 ?k1 ?k2 ?_); (case k3 => with_reducible $b:tactic); $g:tactic; $z:tactic))
local macro_rules | `(tactic| kt_at_item) => do
  let c1 ← `(tactic| (case k1 => with_unfolding_all rfl))
  let c2 ← `(tactic| (case k2 => with_unfolding_all rfl))
  let c3 ← `(tactic| (case k3 => with_unfolding_all rfl))
  let c4 ← `(tactic| (case k4 => with_unfolding_all rfl))
  let d2 ← `(tactic| (case k2 => decide))
  let on := fun (t : Lean.TSyntax `tactic) (q : Lean.Name × Lean.Name) => do
    let i := Lean.mkIdent q.1
    if q.2 == `a then `(tactic| first | refine $i ?_ | $t:tactic)
    else if q.2 == `b then `(tactic| first | (refine' $i ?_ ?k2; $c2:tactic) | $t:tactic)
    else
      let j := Lean.mkIdent q.2
      `(tactic| first | refine $i ?_ $j | $t:tactic)
  let meth := fun (t : Lean.TSyntax `tactic) (q : Lean.Name × Lean.Name × Lean.Name) => do
    let a := Lean.mkIdent q.1
    let b := Lean.mkIdent q.2.1
    let c := Lean.mkIdent q.2.2
    `(tactic| first | (refine' W.meth $a $b $c ?_ ?k1 ?k2 ?k3 ?k4; $c1:tactic; $c2:tactic; $c3:tactic; $c4:tactic) | $t:tactic)
  let t ← `(tactic| first
    | (refine' WT.value ?_ ?k2; (case k2 => intro _; with_unfolding_all rfl))
    | with_unfolding_all kt_at_method)
  let t ← List.foldlM meth t [(``FX.plainAttrs, ``FX.slot, ``FX.type),
    (``PySem.F.plainAttrs_dict, ``PySem.F.slot_dict_items, ``PySem.F.type_dict_items),
    (``PySem.F.plainAttrs_dict, ``PySem.F.slot_dict_get, ``PySem.F.type_dict_get),
    (``PySem.F.plainAttrs_str, ``PySem.F.slot_str_index, ``PySem.F.type_str_index),
    (``PySem.F.plainAttrs_str, ``PySem.F.slot_str_join, ``PySem.F.type_str_join),
    (``PySem.F.plainAttrs_str, ``PySem.F.slot_str_split, ``PySem.F.type_str_split),
    (``PySem.F.plainAttrs_str, ``PySem.F.slot_str_upper, ``PySem.F.type_str_upper),
    (``PySem.F.plainAttrs_str, ``PySem.F.slot_str_lower, ``PySem.F.type_str_lower),
    (``PySem.F.plainAttrs_list, ``PySem.F.slot_list_insert, ``PySem.F.type_list_insert),
    (``PySem.F.plainAttrs_list, ``PySem.F.slot_list_append, ``PySem.F.type_list_append)]
  let t ← `(tactic| first
    | (refine' WX.assign ?k1 ?_ ?k2; (case k1 => with_unfolding_all kt_at_get); $c2:tactic)
    | (refine' WX.assignC' ?k1 ?k3 ?_; (case k1 => with_unfolding_all kt_at_get); (case k3 => with_unfolding_all decide))
    | (refine' W.subscriptN ?k2 ?_; $c2:tactic)
    | (refine' BO.modInt ?_ ?k2; $d2:tactic)
    | (refine' BO.divInt ?_ ?k2 ?k3; $d2:tactic; (case k3 => decide))
    | refine ⟨KP.builtin, ?_⟩ | refine ⟨KP.type, ?_⟩
    | (refine' ⟨KP.fn ?k2, ?_⟩; (case k2 => first | assumption | kernel_rfl))
    | (show thenX _ _ _ _ _ _ Flow.next _ _; with_unfolding_all dsimp only [thenX])
    | $t:tactic)
  let t ← List.foldlM on t [(``WA.cons, `b), (``WK.cons, `a), (``WK.nil, `a), (``WA.nil, `a), (``CO.isNotType, `a), (``CO.isType, `a), (``CO.neStr, `a), (``CO.eqStr, `a), (``TR.none, `a), (``TR.bool, `a),
    (``CO.isNotNone, ``isN_ref), (``CO.isNotNone, ``isN_str), (``CO.isNotNone, ``isN_int), (``CO.isNotNone, ``isN_none),
    (``CO.isNone, ``isN_ref), (``CO.isNone, ``isN_str), (``CO.isNone, ``isN_int), (``CO.isNone, ``isN_none), (``CO.gtInt, `a), (``CO.geInt, `a), (``CO.eqInt, `a), (``CO.ltInt, `a), (``BO.subInt, `a), (``BO.addInt, `a), (``WT.compare, `b), (``W.callName, `b), (``WP.none, `a), (``WP.some, `a), (``W.negC, `a), (``W.and2, `a), (``W.compare, `b), (``W.binOp, `a), (``W.cBool, `a), (``W.cNone, `a), (``W.cInt, `a), (``WT.not, `a), (``WT.any, `a), (``WT.all, `a), (``W.ifExp, `a), (``WX.try, `a), (``WX.retNone, `a), (``WX.nil, `a), (``WX.expr, `b), (``WX.ret, `a), (``WX.ite, `a)]
  `(tactic| with_reducible $t:tactic)
local macro_rules | `(tactic| kt_at_in) => `(tactic| repeat (first | exact Le.nil | refine Le.cons (by rfl) ?_))
noncomputable section
/- F1 -/
structure P0 where
  w : World
  h0 : Heap
  os : OsState
  mg : Str → Option Value
  mb : Str → Option Value
@[reducible] noncomputable def gh (p : P0) : Gh := ⟨PySem.Challenge.pw_uk0021_01, p.w, Kh p.w.params, p.h0, p.os, p.mg, p.mb⟩
@[elab_as_elim] theorem Gen0 {α : Type} {P : α → Prop} (x : α) (h : ∀ y, P y) : P x := h x
@[elab_as_elim] theorem GenE {α : Type} {P : α → Prop} (x : α) (h : ∀ y, x = y → P y) : P x := h x rfl
theorem ifT {b : Bool} {A B : Prop} (h : b = true) (x : A) : if b = true then A else B := by rw [if_pos h]; exact x
theorem ifF {b : Bool} {A B : Prop} (h : b = false) (x : B) : if b = true then A else B := by rw [h, if_neg Bool.false_ne_true]; exact x
theorem lt3 {n : Nat} (h : n < 3) : n = 0 ∨ n = 1 ∨ n = 2 := by omega
theorem lt4 {n : Nat} (h : n < 4) : n = 0 ∨ n = 1 ∨ n = 2 ∨ n = 3 := by omega
theorem iteY {c : Prop} [Decidable c] {A B : Prop} (h : c) (x : A) : if decide c = true then A else B := by rw [decide_eq_true h, if_pos rfl]; exact x
theorem iteN {c : Prop} [Decidable c] {A B : Prop} (h : ¬ c) (x : B) : if decide c = true then A else B := by rw [decide_eq_false h, if_neg Bool.false_ne_true]; exact x
theorem lt63 {i n : Nat} (h : i < n) (hn : n ≤ 1000 := by decide) : (i : Int) < 2 ^ 63 := by omega
noncomputable def iv (l : List Int) : List Value := l.map fun i => .int i 0
theorem iv_get {l : List Int} {i : Nat} (h : i < l.length) : (iv l)[i]? = some (.int (l[i]) 0) := by simp [iv, h]
theorem iv_len {l : List Int} : (iv l).length = l.length := by simp [iv]
theorem bisect_right_body {p : P0} {k : Nat} {σ : AH} {a : Addr} {xs : List Int} {x : Int} {Q : Value → AH → Prop} (hr : Rd (gh p) σ a (.list (iv xs))) (hlen : xs.length ≤ 1000) (hs : xs.Pairwise (· ≤ ·))
   (hQ : Q (.int (cntLe xs x) 0) σ) : CK (gh p) (k + 1) (.ref 56) [.ref a, .int x 0, .int 0 0, .none] [] Q σ := by
  have hsort : ∀ i j (hi : i < xs.length) (hj : j < xs.length), i ≤ j → xs[i] ≤ xs[j] := fun i j hi hj hij => by
    rcases Nat.lt_or_eq_of_le hij with q | rfl
    · exact List.pairwise_iff_getElem.mp hs i j hi hj q
    · exact Int.le_refl _
  refine CK.enter (wr := []) (by rfl) (by kernel_rfl) (by rfl) (by rfl) (by rfl) (by rfl) ?_
  intro args kw ha hk
  obtain ⟨a1, a2, a3, a4, rfl, ha, hb, hc, hd⟩ := args4 ha
  cases List.map_eq_nil_iff.mp hk
  refine C.binds (binds := [("a", a1), ("x", a2), ("lo", a3), ("hi", a4), ("key", .none)]) (by rfl) ⟨by rfl, ?_⟩
  dsimp only [erB, List.map, er_none0]
  rw [ha, hb, hc, hd]
  intro env he
  repeat kt_at_item
  simp only [Int.lt_irrefl, decide_false, Bool.false_eq_true, if_false]
  repeat kt_at_item
  refine ifT (beq_self_eq_true _) ?_
  repeat kt_at_item
  refine CK.len hr (by rw [iv_len]; omega) ?_
  rw [iv_len]
  repeat kt_at_item
  refine ifT (beq_self_eq_true _) ?_
  refine WX.while (fun n m σ' => ∃ l e : Nat, n = e - l ∧ l ≤ e ∧ e ≤ xs.length ∧ (∀ i (hi : i < xs.length), i < l → xs[i] ≤ x) ∧ (∀ i (hi : i < xs.length), e ≤ i → x < xs[i]) ∧
    Le [("a", .ref a), ("x", .int x 0), ("lo", .int l 0), ("hi", .int e 0)] m ∧ σ' = σ) xs.length ⟨0, xs.length, rfl, Nat.zero_le _, Nat.le_refl _, by intros; omega, by intros; omega, ?_, rfl⟩ ?_
  · kt_at_in
  · rintro n m σ' ⟨l, e, rfl, hlh, hhx, h1, h2, hm, rfl⟩
    refine WT.le hm ?_
    repeat kt_at_item
    by_cases hlt : (l : Int) < e
    · refine iteY hlt ?_
      repeat kt_at_item
      have hmid : ((l : Int) + e).fdiv 2 = (((l + e) / 2 : Nat) : Int) := by rw [Int.fdiv_eq_ediv_of_nonneg _ (by omega)]; omega
      rw [hmid]
      have hm1 : (l + e) / 2 < xs.length := by omega
      have hm2 : l ≤ (l + e) / 2 ∧ (l + e) / 2 < e := by omega
      generalize hmm : (l + e) / 2 = mid at hm1 hm2 ⊢
      repeat kt_at_item
      refine SB.list hr (by omega) (by omega) (by simpa using iv_get hm1) ?_
      repeat kt_at_item
      by_cases hc : x < xs[mid]
      · refine iteY hc ?_
        repeat kt_at_item
        exact ⟨_, by omega, l, mid, rfl, by omega, by omega, h1, fun i hi hmi => Int.lt_of_lt_of_le hc (hsort _ _ _ _ hmi), by kt_at_in, rfl⟩
      · refine iteN hc ?_
        repeat kt_at_item
        exact ⟨_, by omega, mid + 1, e, rfl, by omega, by omega, fun i hi hmi => Int.le_trans (hsort i mid _ _ (by omega)) (by omega), h2, by kt_at_in, rfl⟩
    · refine iteN hlt ?_
      repeat kt_at_item
      have : cntLe xs x = l := cntLe_of (by omega) h1 fun i hi hmi => h2 i hi (by omega)
      rw [← this]
      exact hQ
theorem bisect_right_two {p : P0} {k : Nat} {σ : AH} {a : Addr} {xs : List Int} {x : Int} {Q : Value → AH → Prop} (hr : Rd (gh p) σ a (.list (iv xs))) (hlen : xs.length ≤ 1000) (hs : xs.Pairwise (· ≤ ·))
   (hQ : Q (.int (cntLe xs x) 0) σ) : CK (gh p) (k + 1) (.ref 56) [.ref a, .int x 0] [] Q σ := by
  have hsort : ∀ i j (hi : i < xs.length) (hj : j < xs.length), i ≤ j → xs[i] ≤ xs[j] := fun i j hi hj hij => by
    rcases Nat.lt_or_eq_of_le hij with q | rfl
    · exact List.pairwise_iff_getElem.mp hs i j hi hj q
    · exact Int.le_refl _
  refine CK.enter (wr := []) (by rfl) (by kernel_rfl) (by rfl) (by rfl) (by rfl) (by rfl) ?_
  intro args kw ha hk
  obtain ⟨a1, a2, rfl, ha, hb⟩ := args2 ha
  cases List.map_eq_nil_iff.mp hk
  refine C.binds (binds := [("a", a1), ("x", a2), ("lo", .int 0 _), ("hi", .none), ("key", .none)]) (by rfl) ⟨by rfl, ?_⟩
  dsimp only [erB, List.map, er_none0, er_i]
  rw [ha, hb]
  intro env he
  repeat kt_at_item
  simp only [Int.lt_irrefl, decide_false, Bool.false_eq_true, if_false]
  repeat kt_at_item
  refine ifT (beq_self_eq_true _) ?_
  repeat kt_at_item
  refine CK.len hr (by rw [iv_len]; omega) ?_
  rw [iv_len]
  repeat kt_at_item
  refine ifT (beq_self_eq_true _) ?_
  refine WX.while (fun n m σ' => ∃ l e : Nat, n = e - l ∧ l ≤ e ∧ e ≤ xs.length ∧ (∀ i (hi : i < xs.length), i < l → xs[i] ≤ x) ∧ (∀ i (hi : i < xs.length), e ≤ i → x < xs[i]) ∧
    Le [("a", .ref a), ("x", .int x 0), ("lo", .int l 0), ("hi", .int e 0)] m ∧ σ' = σ) xs.length ⟨0, xs.length, rfl, Nat.zero_le _, Nat.le_refl _, by intros; omega, by intros; omega, ?_, rfl⟩ ?_
  · kt_at_in
  · rintro n m σ' ⟨l, e, rfl, hlh, hhx, h1, h2, hm, rfl⟩
    refine WT.le hm ?_
    repeat kt_at_item
    by_cases hlt : (l : Int) < e
    · refine iteY hlt ?_
      repeat kt_at_item
      have hmid : ((l : Int) + e).fdiv 2 = (((l + e) / 2 : Nat) : Int) := by rw [Int.fdiv_eq_ediv_of_nonneg _ (by omega)]; omega
      rw [hmid]
      have hm1 : (l + e) / 2 < xs.length := by omega
      have hm2 : l ≤ (l + e) / 2 ∧ (l + e) / 2 < e := by omega
      generalize hmm : (l + e) / 2 = mid at hm1 hm2 ⊢
      repeat kt_at_item
      refine SB.list hr (by omega) (by omega) (by simpa using iv_get hm1) ?_
      repeat kt_at_item
      by_cases hc : x < xs[mid]
      · refine iteY hc ?_
        repeat kt_at_item
        exact ⟨_, by omega, l, mid, rfl, by omega, by omega, h1, fun i hi hmi => Int.lt_of_lt_of_le hc (hsort _ _ _ _ hmi), by kt_at_in, rfl⟩
      · refine iteN hc ?_
        repeat kt_at_item
        exact ⟨_, by omega, mid + 1, e, rfl, by omega, by omega, fun i hi hmi => Int.le_trans (hsort i mid _ _ (by omega)) (by omega), h2, by kt_at_in, rfl⟩
    · refine iteN hlt ?_
      repeat kt_at_item
      have : cntLe xs x = l := cntLe_of (by omega) h1 fun i hi hmi => h2 i hi (by omega)
      rw [← this]
      exact hQ
theorem bisect_left_two {p : P0} {k : Nat} {σ : AH} {a : Addr} {xs : List Int} {x : Int} {Q : Value → AH → Prop} (hr : Rd (gh p) σ a (.list (iv xs))) (hlen : xs.length ≤ 1000) (hs : xs.Pairwise (· ≤ ·))
   (hQ : Q (.int (cntLt xs x) 0) σ) : CK (gh p) (k + 1) (.ref 65) [.ref a, .int x 0] [] Q σ := by
  have hsort : ∀ i j (hi : i < xs.length) (hj : j < xs.length), i ≤ j → xs[i] ≤ xs[j] := fun i j hi hj hij => by
    rcases Nat.lt_or_eq_of_le hij with q | rfl
    · exact List.pairwise_iff_getElem.mp hs i j hi hj q
    · exact Int.le_refl _
  refine CK.enter (wr := []) (by rfl) (by kernel_rfl) (by rfl) (by rfl) (by rfl) (by rfl) ?_
  intro args kw ha hk
  obtain ⟨a1, a2, rfl, ha, hb⟩ := args2 ha
  cases List.map_eq_nil_iff.mp hk
  refine C.binds (binds := [("a", a1), ("x", a2), ("lo", .int 0 _), ("hi", .none), ("key", .none)]) (by rfl) ⟨by rfl, ?_⟩
  dsimp only [erB, List.map, er_none0, er_i]
  rw [ha, hb]
  intro env he
  repeat kt_at_item
  simp only [Int.lt_irrefl, decide_false, Bool.false_eq_true, if_false]
  repeat kt_at_item
  refine ifT (beq_self_eq_true _) ?_
  repeat kt_at_item
  refine CK.len hr (by rw [iv_len]; omega) ?_
  rw [iv_len]
  repeat kt_at_item
  refine ifT (beq_self_eq_true _) ?_
  refine WX.while (fun n m σ' => ∃ l e : Nat, n = e - l ∧ l ≤ e ∧ e ≤ xs.length ∧ (∀ i (hi : i < xs.length), i < l → xs[i] < x) ∧ (∀ i (hi : i < xs.length), e ≤ i → x ≤ xs[i]) ∧
    Le [("a", .ref a), ("x", .int x 0), ("lo", .int l 0), ("hi", .int e 0)] m ∧ σ' = σ) xs.length ⟨0, xs.length, rfl, Nat.zero_le _, Nat.le_refl _, by intros; omega, by intros; omega, ?_, rfl⟩ ?_
  · kt_at_in
  · rintro n m σ' ⟨l, e, rfl, hlh, hhx, h1, h2, hm, rfl⟩
    refine WT.le hm ?_
    repeat kt_at_item
    by_cases hlt : (l : Int) < e
    · refine iteY hlt ?_
      repeat kt_at_item
      have hmid : ((l : Int) + e).fdiv 2 = (((l + e) / 2 : Nat) : Int) := by rw [Int.fdiv_eq_ediv_of_nonneg _ (by omega)]; omega
      rw [hmid]
      have hm1 : (l + e) / 2 < xs.length := by omega
      have hm2 : l ≤ (l + e) / 2 ∧ (l + e) / 2 < e := by omega
      generalize hmm : (l + e) / 2 = mid at hm1 hm2 ⊢
      repeat kt_at_item
      refine SB.list hr (by omega) (by omega) (by simpa using iv_get hm1) ?_
      repeat kt_at_item
      by_cases hc : xs[mid] < x
      · refine iteY hc ?_
        repeat kt_at_item
        exact ⟨_, by omega, mid + 1, e, rfl, by omega, by omega, fun i hi hmi => Int.lt_of_le_of_lt (hsort i mid _ _ (by omega)) hc, h2, by kt_at_in, rfl⟩
      · refine iteN hc ?_
        repeat kt_at_item
        exact ⟨_, by omega, l, mid, rfl, by omega, by omega, h1, fun i hi hmi => Int.le_trans (by omega) (hsort _ _ _ _ hmi), by kt_at_in, rfl⟩
    · refine iteN hlt ?_
      repeat kt_at_item
      have : cntLt xs x = l := cntLt_of (by omega) h1 fun i hi hmi => h2 i hi (by omega)
      rw [← this]
      exact hQ
/- F2 -/
theorem cdata_body {p : P0} {k : Nat} {σ : AH} {l : List Nat} {Q : Value → AH → Prop} (hb : ∀ i, i < 8 → (escs (tab_cdata.take i) l).length ≤ 1000) (hQ : Q (sv (escs tab_cdata l)) σ) : CK (gh p) (k + 1) (.ref 227) [sv l] [] Q σ := by
  refine CK.enter (wr := []) (by rfl) (by kernel_rfl) (by rfl) (by rfl) (by rfl) (by rfl) ?_
  intro args kw ha hk
  obtain ⟨a1, rfl, h1⟩ := args1 ha
  cases List.map_eq_nil_iff.mp hk
  refine C.binds (binds := [("text", a1)]) (by rfl) ⟨by rfl, ?_⟩
  dsimp only [erB, List.map]
  rw [h1]
  intro env he
  have hk1 : env.kindOf "text" = some .local := kind_of he (by rfl)
  refine WX.try ?_
  have b0 : (l).length ≤ 100000 := Nat.le_trans (hb 0 (by decide)) (by decide)
  refine WX.esc (c := 38) (z := [38, 97, 109, 112, 59]) (l := l) hk1 (by rfl) (by rfl) (by rfl) (by rfl) (by rfl) (by decide) (by decide) b0 (by rfl) (by rfl) (by rfl) (by rfl) (by rfl) ?_
  intro m0 h0
  have b1 : (repl 38 [38, 97, 109, 112, 59] (l)).length ≤ 100000 := Nat.le_trans (hb 1 (by decide)) (by decide)
  refine WX.esc (c := 60) (z := [38, 108, 116, 59]) (l := repl 38 [38, 97, 109, 112, 59] (l)) hk1 h0 (by rfl) (by rfl) (by rfl) (by rfl) (by decide) (by decide) b1 (by rfl) (by rfl) (by rfl) (by rfl) (by rfl) ?_
  intro m1 h1
  have b2 : (repl 60 [38, 108, 116, 59] (repl 38 [38, 97, 109, 112, 59] (l))).length ≤ 100000 := Nat.le_trans (hb 2 (by decide)) (by decide)
  refine WX.esc (c := 62) (z := [38, 103, 116, 59]) (l := repl 60 [38, 108, 116, 59] (repl 38 [38, 97, 109, 112, 59] (l))) hk1 h1 (by rfl) (by rfl) (by rfl) (by rfl) (by decide) (by decide) b2 (by rfl) (by rfl) (by rfl) (by rfl) (by rfl) ?_
  intro m2 h2
  refine WX.ret (W.name (W.loadLocal hk1 h2 ?_) (by rfl))
  exact hQ
theorem attrib_body {p : P0} {k : Nat} {σ : AH} {l : List Nat} {Q : Value → AH → Prop} (hb : ∀ i, i < 8 → (escs (tab_attrib.take i) l).length ≤ 1000) (hQ : Q (sv (escs tab_attrib l)) σ) : CK (gh p) (k + 1) (.ref 234) [sv l] [] Q σ := by
  refine CK.enter (wr := []) (by rfl) (by kernel_rfl) (by rfl) (by rfl) (by rfl) (by rfl) ?_
  intro args kw ha hk
  obtain ⟨a1, rfl, h1⟩ := args1 ha
  cases List.map_eq_nil_iff.mp hk
  refine C.binds (binds := [("text", a1)]) (by rfl) ⟨by rfl, ?_⟩
  dsimp only [erB, List.map]
  rw [h1]
  intro env he
  have hk1 : env.kindOf "text" = some .local := kind_of he (by rfl)
  refine WX.try ?_
  have b0 : (l).length ≤ 100000 := Nat.le_trans (hb 0 (by decide)) (by decide)
  refine WX.esc (c := 38) (z := [38, 97, 109, 112, 59]) (l := l) hk1 (by rfl) (by rfl) (by rfl) (by rfl) (by rfl) (by decide) (by decide) b0 (by rfl) (by rfl) (by rfl) (by rfl) (by rfl) ?_
  intro m0 h0
  have b1 : (repl 38 [38, 97, 109, 112, 59] (l)).length ≤ 100000 := Nat.le_trans (hb 1 (by decide)) (by decide)
  refine WX.esc (c := 60) (z := [38, 108, 116, 59]) (l := repl 38 [38, 97, 109, 112, 59] (l)) hk1 h0 (by rfl) (by rfl) (by rfl) (by rfl) (by decide) (by decide) b1 (by rfl) (by rfl) (by rfl) (by rfl) (by rfl) ?_
  intro m1 h1
  have b2 : (repl 60 [38, 108, 116, 59] (repl 38 [38, 97, 109, 112, 59] (l))).length ≤ 100000 := Nat.le_trans (hb 2 (by decide)) (by decide)
  refine WX.esc (c := 62) (z := [38, 103, 116, 59]) (l := repl 60 [38, 108, 116, 59] (repl 38 [38, 97, 109, 112, 59] (l))) hk1 h1 (by rfl) (by rfl) (by rfl) (by rfl) (by decide) (by decide) b2 (by rfl) (by rfl) (by rfl) (by rfl) (by rfl) ?_
  intro m2 h2
  have b3 : (repl 62 [38, 103, 116, 59] (repl 60 [38, 108, 116, 59] (repl 38 [38, 97, 109, 112, 59] (l)))).length ≤ 100000 := Nat.le_trans (hb 3 (by decide)) (by decide)
  refine WX.esc (c := 34) (z := [38, 113, 117, 111, 116, 59]) (l := repl 62 [38, 103, 116, 59] (repl 60 [38, 108, 116, 59] (repl 38 [38, 97, 109, 112, 59] (l)))) hk1 h2 (by rfl) (by rfl) (by rfl) (by rfl) (by decide) (by decide) b3 (by rfl) (by rfl) (by rfl) (by rfl) (by rfl) ?_
  intro m3 h3
  have b4 : (repl 34 [38, 113, 117, 111, 116, 59] (repl 62 [38, 103, 116, 59] (repl 60 [38, 108, 116, 59] (repl 38 [38, 97, 109, 112, 59] (l))))).length ≤ 100000 := Nat.le_trans (hb 4 (by decide)) (by decide)
  refine WX.esc (c := 13) (z := [38, 35, 49, 51, 59]) (l := repl 34 [38, 113, 117, 111, 116, 59] (repl 62 [38, 103, 116, 59] (repl 60 [38, 108, 116, 59] (repl 38 [38, 97, 109, 112, 59] (l))))) hk1 h3 (by rfl) (by rfl) (by rfl) (by rfl) (by decide) (by decide) b4 (by rfl) (by rfl) (by rfl) (by rfl) (by rfl) ?_
  intro m4 h4
  have b5 : (repl 13 [38, 35, 49, 51, 59] (repl 34 [38, 113, 117, 111, 116, 59] (repl 62 [38, 103, 116, 59] (repl 60 [38, 108, 116, 59] (repl 38 [38, 97, 109, 112, 59] (l)))))).length ≤ 100000 := Nat.le_trans (hb 5 (by decide)) (by decide)
  refine WX.esc (c := 10) (z := [38, 35, 49, 48, 59]) (l := repl 13 [38, 35, 49, 51, 59] (repl 34 [38, 113, 117, 111, 116, 59] (repl 62 [38, 103, 116, 59] (repl 60 [38, 108, 116, 59] (repl 38 [38, 97, 109, 112, 59] (l)))))) hk1 h4 (by rfl) (by rfl) (by rfl) (by rfl) (by decide) (by decide) b5 (by rfl) (by rfl) (by rfl) (by rfl) (by rfl) ?_
  intro m5 h5
  have b6 : (repl 10 [38, 35, 49, 48, 59] (repl 13 [38, 35, 49, 51, 59] (repl 34 [38, 113, 117, 111, 116, 59] (repl 62 [38, 103, 116, 59] (repl 60 [38, 108, 116, 59] (repl 38 [38, 97, 109, 112, 59] (l))))))).length ≤ 100000 := Nat.le_trans (hb 6 (by decide)) (by decide)
  refine WX.esc (c := 9) (z := [38, 35, 48, 57, 59]) (l := repl 10 [38, 35, 49, 48, 59] (repl 13 [38, 35, 49, 51, 59] (repl 34 [38, 113, 117, 111, 116, 59] (repl 62 [38, 103, 116, 59] (repl 60 [38, 108, 116, 59] (repl 38 [38, 97, 109, 112, 59] (l))))))) hk1 h5 (by rfl) (by rfl) (by rfl) (by rfl) (by decide) (by decide) b6 (by rfl) (by rfl) (by rfl) (by rfl) (by rfl) ?_
  intro m6 h6
  refine WX.ret (W.name (W.loadLocal hk1 h6 ?_) (by rfl))
  exact hQ
theorem cdata_c14n_body {p : P0} {k : Nat} {σ : AH} {l : List Nat} {Q : Value → AH → Prop} (hb : ∀ i, i < 8 → (escs (tab_cdata_c14n.take i) l).length ≤ 1000) (hQ : Q (sv (escs tab_cdata_c14n l)) σ) : CK (gh p) (k + 1) (.ref 241) [sv l] [] Q σ := by
  refine CK.enter (wr := []) (by rfl) (by kernel_rfl) (by rfl) (by rfl) (by rfl) (by rfl) ?_
  intro args kw ha hk
  obtain ⟨a1, rfl, h1⟩ := args1 ha
  cases List.map_eq_nil_iff.mp hk
  refine C.binds (binds := [("text", a1)]) (by rfl) ⟨by rfl, ?_⟩
  dsimp only [erB, List.map]
  rw [h1]
  intro env he
  have hk1 : env.kindOf "text" = some .local := kind_of he (by rfl)
  refine WX.try ?_
  have b0 : (l).length ≤ 100000 := Nat.le_trans (hb 0 (by decide)) (by decide)
  refine WX.esc (c := 38) (z := [38, 97, 109, 112, 59]) (l := l) hk1 (by rfl) (by rfl) (by rfl) (by rfl) (by rfl) (by decide) (by decide) b0 (by rfl) (by rfl) (by rfl) (by rfl) (by rfl) ?_
  intro m0 h0
  have b1 : (repl 38 [38, 97, 109, 112, 59] (l)).length ≤ 100000 := Nat.le_trans (hb 1 (by decide)) (by decide)
  refine WX.esc (c := 60) (z := [38, 108, 116, 59]) (l := repl 38 [38, 97, 109, 112, 59] (l)) hk1 h0 (by rfl) (by rfl) (by rfl) (by rfl) (by decide) (by decide) b1 (by rfl) (by rfl) (by rfl) (by rfl) (by rfl) ?_
  intro m1 h1
  have b2 : (repl 60 [38, 108, 116, 59] (repl 38 [38, 97, 109, 112, 59] (l))).length ≤ 100000 := Nat.le_trans (hb 2 (by decide)) (by decide)
  refine WX.esc (c := 62) (z := [38, 103, 116, 59]) (l := repl 60 [38, 108, 116, 59] (repl 38 [38, 97, 109, 112, 59] (l))) hk1 h1 (by rfl) (by rfl) (by rfl) (by rfl) (by decide) (by decide) b2 (by rfl) (by rfl) (by rfl) (by rfl) (by rfl) ?_
  intro m2 h2
  have b3 : (repl 62 [38, 103, 116, 59] (repl 60 [38, 108, 116, 59] (repl 38 [38, 97, 109, 112, 59] (l)))).length ≤ 100000 := Nat.le_trans (hb 3 (by decide)) (by decide)
  refine WX.esc (c := 13) (z := [38, 35, 120, 68, 59]) (l := repl 62 [38, 103, 116, 59] (repl 60 [38, 108, 116, 59] (repl 38 [38, 97, 109, 112, 59] (l)))) hk1 h2 (by rfl) (by rfl) (by rfl) (by rfl) (by decide) (by decide) b3 (by rfl) (by rfl) (by rfl) (by rfl) (by rfl) ?_
  intro m3 h3
  refine WX.ret (W.name (W.loadLocal hk1 h3 ?_) (by rfl))
  exact hQ
theorem attrib_c14n_body {p : P0} {k : Nat} {σ : AH} {l : List Nat} {Q : Value → AH → Prop} (hb : ∀ i, i < 8 → (escs (tab_attrib_c14n.take i) l).length ≤ 1000) (hQ : Q (sv (escs tab_attrib_c14n l)) σ) : CK (gh p) (k + 1) (.ref 248) [sv l] [] Q σ := by
  refine CK.enter (wr := []) (by rfl) (by kernel_rfl) (by rfl) (by rfl) (by rfl) (by rfl) ?_
  intro args kw ha hk
  obtain ⟨a1, rfl, h1⟩ := args1 ha
  cases List.map_eq_nil_iff.mp hk
  refine C.binds (binds := [("text", a1)]) (by rfl) ⟨by rfl, ?_⟩
  dsimp only [erB, List.map]
  rw [h1]
  intro env he
  have hk1 : env.kindOf "text" = some .local := kind_of he (by rfl)
  refine WX.try ?_
  have b0 : (l).length ≤ 100000 := Nat.le_trans (hb 0 (by decide)) (by decide)
  refine WX.esc (c := 38) (z := [38, 97, 109, 112, 59]) (l := l) hk1 (by rfl) (by rfl) (by rfl) (by rfl) (by rfl) (by decide) (by decide) b0 (by rfl) (by rfl) (by rfl) (by rfl) (by rfl) ?_
  intro m0 h0
  have b1 : (repl 38 [38, 97, 109, 112, 59] (l)).length ≤ 100000 := Nat.le_trans (hb 1 (by decide)) (by decide)
  refine WX.esc (c := 60) (z := [38, 108, 116, 59]) (l := repl 38 [38, 97, 109, 112, 59] (l)) hk1 h0 (by rfl) (by rfl) (by rfl) (by rfl) (by decide) (by decide) b1 (by rfl) (by rfl) (by rfl) (by rfl) (by rfl) ?_
  intro m1 h1
  have b2 : (repl 60 [38, 108, 116, 59] (repl 38 [38, 97, 109, 112, 59] (l))).length ≤ 100000 := Nat.le_trans (hb 2 (by decide)) (by decide)
  refine WX.esc (c := 34) (z := [38, 113, 117, 111, 116, 59]) (l := repl 60 [38, 108, 116, 59] (repl 38 [38, 97, 109, 112, 59] (l))) hk1 h1 (by rfl) (by rfl) (by rfl) (by rfl) (by decide) (by decide) b2 (by rfl) (by rfl) (by rfl) (by rfl) (by rfl) ?_
  intro m2 h2
  have b3 : (repl 34 [38, 113, 117, 111, 116, 59] (repl 60 [38, 108, 116, 59] (repl 38 [38, 97, 109, 112, 59] (l)))).length ≤ 100000 := Nat.le_trans (hb 3 (by decide)) (by decide)
  refine WX.esc (c := 9) (z := [38, 35, 120, 57, 59]) (l := repl 34 [38, 113, 117, 111, 116, 59] (repl 60 [38, 108, 116, 59] (repl 38 [38, 97, 109, 112, 59] (l)))) hk1 h2 (by rfl) (by rfl) (by rfl) (by rfl) (by decide) (by decide) b3 (by rfl) (by rfl) (by rfl) (by rfl) (by rfl) ?_
  intro m3 h3
  have b4 : (repl 9 [38, 35, 120, 57, 59] (repl 34 [38, 113, 117, 111, 116, 59] (repl 60 [38, 108, 116, 59] (repl 38 [38, 97, 109, 112, 59] (l))))).length ≤ 100000 := Nat.le_trans (hb 4 (by decide)) (by decide)
  refine WX.esc (c := 10) (z := [38, 35, 120, 65, 59]) (l := repl 9 [38, 35, 120, 57, 59] (repl 34 [38, 113, 117, 111, 116, 59] (repl 60 [38, 108, 116, 59] (repl 38 [38, 97, 109, 112, 59] (l))))) hk1 h3 (by rfl) (by rfl) (by rfl) (by rfl) (by decide) (by decide) b4 (by rfl) (by rfl) (by rfl) (by rfl) (by rfl) ?_
  intro m4 h4
  have b5 : (repl 10 [38, 35, 120, 65, 59] (repl 9 [38, 35, 120, 57, 59] (repl 34 [38, 113, 117, 111, 116, 59] (repl 60 [38, 108, 116, 59] (repl 38 [38, 97, 109, 112, 59] (l)))))).length ≤ 100000 := Nat.le_trans (hb 5 (by decide)) (by decide)
  refine WX.esc (c := 13) (z := [38, 35, 120, 68, 59]) (l := repl 10 [38, 35, 120, 65, 59] (repl 9 [38, 35, 120, 57, 59] (repl 34 [38, 113, 117, 111, 116, 59] (repl 60 [38, 108, 116, 59] (repl 38 [38, 97, 109, 112, 59] (l)))))) hk1 h4 (by rfl) (by rfl) (by rfl) (by rfl) (by decide) (by decide) b5 (by rfl) (by rfl) (by rfl) (by rfl) (by rfl) ?_
  intro m5 h5
  refine WX.ret (W.name (W.loadLocal hk1 h5 ?_) (by rfl))
  exact hQ
/- F3 -/
theorem insort_ck {p : P0} {k : Nat} {σ : AH} {a : Addr} {i : Nat} {xs : List Int} {x : Int} {Q : Value → AH → Prop} (hi : σ[i]? = some (a, .list (iv xs))) (hlen : xs.length ≤ 1000) (hs : xs.Pairwise (· ≤ ·))
    (hQ : Q .none (σ.set i (a, .list (iv (ins xs x))))) : CK (gh p) (k + 2) (.ref 47) [.ref a, .int x 0] [] Q σ := by
  refine CK.enter (wr := []) (by rfl) (by kernel_rfl) (by rfl) (by rfl) (by rfl) (by rfl) ?_
  intro args kw ha hk
  obtain ⟨a1, a2, rfl, h1, h2⟩ := args2 ha
  cases List.map_eq_nil_iff.mp hk
  refine C.binds (binds := [("a", a1), ("x", a2), ("lo", .int 0 _), ("hi", .none), ("key", .none)]) (by rfl) ⟨by rfl, ?_⟩
  dsimp only [erB, List.map, er_none0, er_i]
  rw [h1, h2]
  intro env he
  repeat kt_at_item
  refine ifT (beq_self_eq_true _) ?_
  repeat kt_at_item
  refine bisect_right_body (.inl (List.mem_of_getElem? hi)) hlen hs ?_
  repeat kt_at_item
  refine ⟨TyIs.list (.inl (List.mem_of_getElem? hi)), ?_⟩
  repeat kt_at_item
  have hc := cntLe_le xs x
  refine CK.insert hi (by omega) (by rw [iv_len]; omega) (by rw [iv_len]; omega) ?_
  repeat kt_at_item
  rw [Int.toNat_natCast]
  have : (iv xs).take (cntLe xs x) ++ Value.int x 0 :: (iv xs).drop (cntLe xs x) = iv (ins xs x) := by simp [iv, ins, List.map_take, List.map_drop]
  rw [this]
  exact hQ
/- F4 -/
/-- ints as texts -/
noncomputable def nv (l : List Int) : List Value := l.map fun i => .str (toString i) 0
theorem nv_len {l : List Int} : (nv l).length = l.length := by simp [nv]
theorem row_ck {p : P0} {k : Nat} {σ : AH} {t : Addr} {ns : List Int} {Q : Value → AH → Prop} (hr : Rd (gh p) σ t (.list (nv ns))) (hlen : ns.length ≤ 100) (hn : ∀ n ∈ ns, 0 ≤ n ∧ n < 10 ^ 10)
    (hQ : ∀ D, Q (.ref D) ((D, .list (iv (insAll ns))) :: σ)) : CK (gh p) (k + 3) (.ref 293) [.ref t] [] Q σ := by
  refine CK.enter (wr := []) (by rfl) (by kernel_rfl) (by rfl) (by rfl) (by rfl) (by rfl) ?_
  intro args kw ha hk
  obtain ⟨a1, rfl, h1⟩ := args1 ha
  cases List.map_eq_nil_iff.mp hk
  refine C.binds (binds := [("texts", a1)]) (by rfl) ⟨by rfl, ?_⟩
  dsimp only [erB, List.map]
  rw [h1]
  intro env he
  repeat kt_at_item
  refine W.list (WA.nil ⟨by simp, fun D => ?_⟩)
  refine WX.for (nv ns) (fun _ σ' => Rd (gh p) σ' t (.list (nv ns))) (fun _ i m σ' => Le [("row", .ref D), ("texts", .ref t)] m ∧ σ' = (D, .list (iv (insAll (ns.take i)))) :: σ) (stLocal (kind_of he (by rfl))) ?_ ?_ ?_ ?_ (by intro _; rfl)
  · repeat kt_at_item
    refine ⟨It.list (Rd.up (List.sublist_cons_self _ _) hr), _, List.Sublist.refl _, by kt_at_in, rfl⟩
  · rintro _ i m σ' ⟨_, rfl⟩
    exact Rd.up (List.sublist_cons_self _ _) hr
  · rintro _ i m σ' v hv ⟨hm, rfl⟩
    have hi : i < ns.length := by have := (List.getElem?_eq_some_iff.mp hv).1; rwa [nv_len] at this
    have ev : v = .str (toString ns[i]) 0 := by
      rw [nv, List.getElem?_map, List.getElem?_eq_getElem hi] at hv
      exact (Option.some.inj hv).symm
    subst ev
    have hb := hn _ (List.getElem_mem hi)
    refine WX.le (M := [("text", .str (toString ns[i]) 0), ("row", .ref D), ("texts", .ref t)]) ?_ ?_
    · exact Le.cons lookup_cons_self (Le.skip hm (by rfl))
    · repeat kt_at_item
      refine CK.intOfStr hb.1 hb.2 ?_
      repeat kt_at_item
      refine insort_ck (i := 0) (by rfl) (by rw [insAll_len, List.length_take]; omega) (insAll_sorted _) ?_
      repeat kt_at_item
      refine ifF (by rw [beq_self_eq_true]; rfl) ?_
      repeat kt_at_item
      refine ⟨by kt_at_in, ?_⟩
      show (D, _) :: σ = _
      unfold insAll
      rw [List.take_succ_eq_append_getElem hi, List.foldl_append]
      rfl
  · rintro _ m σ' ⟨hm, rfl⟩
    refine WX.le hm ?_
    repeat kt_at_item
    rw [nv_len, List.take_of_length_le (Nat.le_refl _)]
    exact hQ D
/-- what law_hand hands over -/
noncomputable def tabOf (way : Nat) : List (Nat × List Nat) := if way = 0 then tab_cdata else if way = 1 then tab_cdata_c14n else if way = 2 then tab_attrib else tab_attrib_c14n
theorem hand_ck {p : P0} {k : Nat} {σ : AH} {l : List Nat} {way : Nat} {Q : Value → AH → Prop} (hw : way < 4) (hb : ∀ i, i < 8 → (escs ((tabOf way).take i) l).length ≤ 1000) (hQ : Q (sv (escs (tabOf way) l)) σ) : CK (gh p) (k + 2) (.ref 262) [sv l, .int way 0] [] Q σ := by
  refine CK.enter (wr := []) (by rfl) (by kernel_rfl) (by rfl) (by rfl) (by rfl) (by rfl) ?_
  intro args kw ha hk
  obtain ⟨a1, a2, rfl, h1, h2⟩ := args2 ha
  cases List.map_eq_nil_iff.mp hk
  refine C.binds (binds := [("text", a1), ("way", a2)]) (by rfl) ⟨by rfl, ?_⟩
  dsimp only [erB, List.map]
  rw [h1, h2]
  intro env he
  repeat kt_at_item
  rcases lt4 hw with rfl | rfl | rfl | rfl
  ·
    refine ifT rfl ?_
    repeat kt_at_item
    exact cdata_body hb hQ
  ·
    refine ifF rfl ?_
    repeat kt_at_item
    refine ifT rfl ?_
    repeat kt_at_item
    exact cdata_c14n_body hb hQ
  ·
    refine ifF rfl ?_
    repeat kt_at_item
    refine ifF rfl ?_
    repeat kt_at_item
    refine ifT rfl ?_
    repeat kt_at_item
    exact attrib_body hb hQ
  ·
    refine ifF rfl ?_
    repeat kt_at_item
    refine ifF rfl ?_
    repeat kt_at_item
    refine ifF rfl ?_
    repeat kt_at_item
    exact attrib_c14n_body hb hQ
noncomputable def tagOf (part x : Nat) : List Nat := if x % 2 = 0 then [112 + part] else [80 + part]
theorem tag_ck {p : P0} {k : Nat} {σ : AH} {part x : Nat} {Q : Value → AH → Prop} (hp : part < 9) (hQ : Q (sv (tagOf part x)) σ) : CK (gh p) (k + 1) (.ref 312) [.int part 0, .int x 0] [] Q σ := by
  refine CK.enter (wr := []) (by rfl) (by kernel_rfl) (by rfl) (by rfl) (by rfl) (by rfl) ?_
  intro args kw ha hk
  obtain ⟨a1, a2, rfl, h1, h2⟩ := args2 ha
  cases List.map_eq_nil_iff.mp hk
  refine C.binds (binds := [("part", a1), ("x", a2)]) (by rfl) ⟨by rfl, ?_⟩
  dsimp only [erB, List.map]
  rw [h1, h2]
  intro env he
  repeat kt_at_item
  have hx : (x : Int).fmod 2 = ((x % 2 : Nat) : Int) := by rw [Int.fmod_eq_emod_of_nonneg _ (by omega)]; omega
  rw [hx]
  by_cases h : x % 2 = 0
  · have e : (((x % 2 : Nat) : Int) == 0) = true := by rw [h]; rfl
    simp only [e, if_true]
    repeat kt_at_item
    refine W.cSv (l := [112, 113, 114, 115, 116, 117, 118, 119, 120]) (by rfl) ?_
    repeat kt_at_item
    refine SB.str (c := 112 + part) ((by decide : ∀ c : Fin 9, ([112, 113, 114, 115, 116, 117, 118, 119, 120] : List Nat)[c.val]? = some (112 + c.val)) ⟨part, hp⟩) (by decide) ?_
    repeat kt_at_item
    have : tagOf part x = [112 + part] := if_pos h
    rw [this] at hQ; exact hQ
  · have e : (((x % 2 : Nat) : Int) == 0) = false := by rw [beq_eq_false_iff_ne]; omega
    simp only [e, Bool.false_eq_true, if_false]
    repeat kt_at_item
    refine W.cSv (l := [80, 81, 82, 83, 84, 85, 86, 87, 88]) (by rfl) ?_
    repeat kt_at_item
    refine SB.str (c := 80 + part) ((by decide : ∀ c : Fin 9, ([80, 81, 82, 83, 84, 85, 86, 87, 88] : List Nat)[c.val]? = some (80 + c.val)) ⟨part, hp⟩) (by decide) ?_
    repeat kt_at_item
    have : tagOf part x = [80 + part] := if_neg h
    rw [this] at hQ; exact hQ
/- F5 -/
theorem iv_getD {l : List Int} {i : Nat} (h : i < l.length) : (iv l)[i]? = some (.int (l.getD i 0) 0) := by
  rw [iv_get h, List.getD_eq_getElem?_getD, List.getElem?_eq_getElem h]; rfl
theorem common_ck {p : P0} {k : Nat} {σ : AH} {a b : Addr} {pl en : List Int} {x y : Nat} {Q : Value → AH → Prop} (ha : Rd (gh p) σ a (.list (iv pl))) (hb : Rd (gh p) σ b (.list (iv en))) (lp : pl.length = 9) (le : en.length = 9) (hx : x < 9) (hy : y < 9)
    (h0 : ¬ en.getD 0 0 < pl.getD (max x y) 0) (hQ : Q (.int (comm pl en x y) 0) σ) : CK (gh p) (k + 1) (.ref 300) [.int x 0, .int y 0, .ref a, .ref b] [] Q σ := by
  refine CK.enter (wr := []) (by rfl) (by kernel_rfl) (by rfl) (by rfl) (by rfl) (by rfl) ?_
  intro args kw h hk
  obtain ⟨a1, a2, a3, a4, rfl, h1, h2, h3, h4⟩ := args4 h
  cases List.map_eq_nil_iff.mp hk
  refine C.binds (binds := [("x", a1), ("y", a2), ("places", a3), ("ends", a4)]) (by rfl) ⟨by rfl, ?_⟩
  dsimp only [erB, List.map]
  rw [h1, h2, h3, h4]
  intro env he
  repeat kt_at_item
  refine CK.min2 ?_
  have e1 : (if (y : Int) < (x : Int) then (y : Int) else (x : Int)) = ((min x y : Nat) : Int) := by split <;> omega
  rw [e1]
  have e2 : (if (y : Int) > (x : Int) then (y : Int) else (x : Int)) = ((max x y : Nat) : Int) := by split <;> omega
  repeat kt_at_item
  refine WX.while (fun n m σ' => Le [("part", .int n 0), ("x", .int x 0), ("y", .int y 0), ("places", .ref a), ("ends", .ref b)] m ∧ n ≤ min x y ∧ commF en (pl.getD (max x y) 0) n = comm pl en x y ∧ σ' = σ) (min x y) ⟨by kt_at_in, Nat.le_refl _, rfl, rfl⟩ ?_
  rintro n m σ' ⟨hm, hn, hc, rfl⟩
  refine WT.le hm ?_
  repeat kt_at_item
  refine SB.list hb (by first | exact Int.natCast_nonneg _ | omega) (by first | exact lt63 (by with_reducible assumption) | omega) (by rw [Int.toNat_natCast]; exact iv_getD (by omega)) ?_
  repeat kt_at_item
  refine CK.max2 ?_
  rw [e2]
  repeat kt_at_item
  refine SB.list ha (by first | exact Int.natCast_nonneg _ | omega) (by first | exact lt63 (by with_reducible assumption) | omega) (by rw [Int.toNat_natCast]; exact iv_getD (by omega)) ?_
  repeat kt_at_item
  by_cases hlt : en.getD n 0 < pl.getD (max x y) 0
  · refine iteY hlt ?_
    have hn0 : n ≠ 0 := fun e => h0 (by rw [e] at hlt; exact hlt)
    obtain ⟨n', rfl⟩ := Nat.exists_eq_succ_of_ne_zero hn0
    repeat kt_at_item
    have e3 : ((n'.succ : Nat) : Int) - 1 = (n' : Int) := by omega
    rw [e3]
    refine ⟨n', Nat.lt_succ_self _, by kt_at_in, by omega, ?_, rfl⟩
    rw [← hc]
    show _ = commF en _ (n' + 1)
    conv => rhs; unfold commF
    rw [if_pos hlt]
  · refine iteN hlt ?_
    repeat kt_at_item
    have : comm pl en x y = n := by
      rw [← hc]
      cases n with
      | zero => rfl
      | succ n' => unfold commF; rw [if_neg hlt]
    rw [this] at hQ; exact hQ
theorem both_iv (l : List Int) : Both RI (iv l) l := Both.map (R := RI) (f := fun i : Int => Value.int i 0) (fun c => rfl) l
theorem both_sv (l : List (List Nat)) : Both RS (l.map sv) l := Both.map (R := RS) (f := sv) (fun c => rfl) l
/-- rest and its first -/
theorem has_ck {p : P0} {k : Nat} {σ : AH} {a : Addr} {xs : List Int} {place e : Int} {Q : Value → AH → Prop} (hr : Rd (gh p) σ a (.list (iv xs))) (hlen : xs.length ≤ 1000) (hs : xs.Pairwise (· ≤ ·))
    (hQ : ∀ σ', σ.Sublist σ' → Q (.bool (match (xs.drop (cntLt xs place)).head? with | none => false | some y => decide (y < e))) σ') : CK (gh p) (k + 2) (.ref 336) [.ref a, .int place 0, .int e 0] [] Q σ := by
  refine CK.enter (wr := []) (by rfl) (by kernel_rfl) (by rfl) (by rfl) (by rfl) (by rfl) ?_
  intro args kw h hk
  obtain ⟨a1, a2, a3, rfl, h1, h2, h3⟩ := args3 h
  cases List.map_eq_nil_iff.mp hk
  refine C.binds (binds := [("row", a1), ("place", a2), ("end", a3)]) (by rfl) ⟨by rfl, ?_⟩
  dsimp only [erB, List.map]
  rw [h1, h2, h3]
  intro env he
  repeat kt_at_item
  refine W.listSlice ?_ (by intro _ _; rfl)
  repeat kt_at_item
  refine bisect_left_two hr hlen hs ?_
  repeat kt_at_item
  refine ⟨a, iv xs, some (cntLt xs place), none, rfl, hr, by rw [iv_len]; omega, rfl, rfl, fun D => ?_⟩
  repeat kt_at_item
  refine W.list (WA.nil ⟨by simp, fun E => ?_⟩)
  have hd : (iv xs).drop (cntLt xs place) = iv (xs.drop (cntLt xs place)) := by simp [iv, List.map_drop]
  dsimp only [pickV]
  rw [hd]
  refine CO.neL (R := RI) EqR.int (cs := xs.drop (cntLt xs place)) (ds := []) ⟨D, _, rfl, .inl (List.mem_cons_of_mem _ List.mem_cons_self), both_iv _⟩ ⟨E, [], rfl, .inl List.mem_cons_self, ⟨rfl, by simp⟩⟩ ?_
  repeat kt_at_item
  cases hh : xs.drop (cntLt xs place) with
  | nil =>
    rw [hh] at hQ
    refine ifF (by rw [decide_eq_true rfl]; rfl) ?_
    exact hQ _ ((List.sublist_cons_self _ _).trans (List.sublist_cons_self _ _))
  | cons y r =>
    rw [hh] at hQ
    simp only [reduceCtorEq, decide_false, Bool.not_false, if_true]
    repeat kt_at_item
    refine SB.list (.inl (List.mem_cons_of_mem _ List.mem_cons_self)) (Int.le_refl _) (by decide) (v := .int y 0) (by rfl) ?_
    repeat kt_at_item
    exact hQ _ ((List.sublist_cons_self _ _).trans (List.sublist_cons_self _ _))
/- F6 -/
noncomputable def nvs (l : List Nat) : List Value := l.map fun (n : Nat) => Value.int (n : Int) 0
theorem nvs_iv (l : List Nat) : nvs l = iv (l.map fun (n : Nat) => (n : Int)) := by simp [nvs, iv]
/-- the greatest of what common tells of some -/
noncomputable def nearF (pl en : List Int) (x : Nat) (ys : List Nat) (at_ : Nat) : Int := maxOf ((pickV ys (some (at_ - 1)) (some (at_ + 1))).map fun y => ((comm pl en x y : Nat) : Int))
theorem nearest_ck {p : P0} {k : Nat} {σ : AH} {r w a b : Addr} {pl en xs : List Int} {ys : List Nat} {x : Nat} {Q : Value → AH → Prop} (hr : Rd (gh p) σ r (.list (iv xs))) (hw : Rd (gh p) σ w (.list (nvs ys))) (ha : Rd (gh p) σ a (.list (iv pl))) (hb : Rd (gh p) σ b (.list (iv en)))
    (lp : pl.length = 9) (le : en.length = 9) (lx : xs.length ≤ 1000) (ly : ys.length ≤ 1000) (hs : xs.Pairwise (· ≤ ·)) (hx : x < 9) (hy : ∀ y ∈ ys, y < 9) (h0 : ∀ i, i < 9 → ¬ en.getD 0 0 < pl.getD i 0)
    (hQ : ∀ σ', σ.Sublist σ' → Q (.int (nearF pl en x ys (cntLe xs (pl.getD x 0))) 0) σ') : CK (gh p) (k + 2) (.ref 305) [.int x 0, .ref r, .ref w, .ref a, .ref b] [] Q σ := by
  refine CK.enter (wr := ["x", "places", "ends"]) (by rfl) (by kernel_rfl) (by rfl) (by rfl) (by rfl) (by rfl) ?_
  intro args kw h hk
  obtain ⟨a1, a2, a3, a4, a5, rfl, h1, h2, h3, h4, h5⟩ := args5 h
  cases List.map_eq_nil_iff.mp hk
  refine C.binds (binds := [("x", a1), ("row", a2), ("whose", a3), ("places", a4), ("ends", a5)]) (by rfl) ⟨by rfl, ?_⟩
  dsimp only [erB, List.map]
  rw [h1, h2, h3, h4, h5]
  intro env he
  repeat kt_at_item
  refine SB.list ha (by first | exact Int.natCast_nonneg _ | omega) (by first | exact lt63 (by with_reducible assumption) | omega) (by rw [Int.toNat_natCast]; exact iv_getD (by omega)) ?_
  repeat kt_at_item
  refine bisect_right_two hr lx hs ?_
  revert hQ
  refine GenE (cntLe xs (pl.getD x 0)) ?_
  intro at_ hat hQ
  have hle : at_ ≤ xs.length := by rw [← hat]; exact cntLe_le _ _
  repeat kt_at_item
  refine W.list ?_
  repeat kt_at_item
  refine ⟨by simp, fun D => ?_⟩
  revert hQ
  refine GenE (pickV ys (some (at_ - 1)) (some (at_ + 1))) ?_
  intro zs hzz hQ
  have hzm : ∀ y ∈ zs, y ∈ ys := fun y hy => by
    rw [← hzz] at hy
    exact List.mem_of_mem_drop (List.mem_of_mem_take hy)
  have hzl : zs.length ≤ ys.length := by rw [← hzz]; simp only [pickV, List.length_take, List.length_drop]; omega
  have hsub : σ.Sublist ((D, AO.list [Value.int (-1) 0]) :: σ) := List.sublist_cons_self _ _
  have hpick : pickV (nvs ys) (some (at_ - 1)) (some (at_ + 1)) = nvs zs := by rw [← hzz]; simp [pickV, nvs, List.map_take, List.map_drop]
  refine W.comp he (nvs zs) (depL (gh p) (nvs zs)) (fun xv i vs σ' => depL (gh p) (nvs zs) xv σ' ∧ σ.Sublist σ' ∧ (D, AO.list [Value.int (-1) 0]) ∈ σ' ∧ vs = nvs ((zs.take i).map fun y => comm pl en x y)) [("x", .int x 0), ("places", .ref a), ("ends", .ref b)] (by rfl) (by rfl) ?_ (by kt_at_in) ?_ (fun _ _ _ _ h => h.1) ?_ (by intro _; rfl)
  · simp [nvs]; omega
  · refine W.listSlice ?_ (by intro _ _; rfl)
    repeat kt_at_item
    refine CK.max2 ?_
    have e1 : (if (0 : Int) > (at_ : Int) - 1 then (0 : Int) else (at_ : Int) - 1) = ((at_ - 1 : Nat) : Int) := by split <;> omega
    rw [e1]
    repeat kt_at_item
    refine ⟨w, nvs ys, some (at_ - 1), some (at_ + 1), rfl, hw.up hsub, by simp [nvs]; omega, rfl, by simp [partV], fun S => ?_⟩
    rw [hpick]
    have hS : Rd (gh p) ((S, AO.list (nvs zs)) :: (D, AO.list [Value.int (-1) 0]) :: σ) S (.list (nvs zs)) := .inl List.mem_cons_self
    refine ⟨It.listD hS, ⟨_, List.Sublist.refl _, ⟨S, rfl, hS⟩, hsub.trans (List.sublist_cons_self _ _), List.mem_cons_of_mem _ List.mem_cons_self, rfl⟩, by kt_at_in, ?_⟩
    rintro vs σ' E ⟨_, hs', hD, rfl⟩
    have hfin : (zs.take (nvs zs).length) = zs := List.take_of_length_le (by simp [nvs])
    rw [hfin]
    refine BO.addList (xs := [Value.int (-1) 0]) (ys := nvs (zs.map fun y => comm pl en x y)) (.inl (List.mem_cons_of_mem _ hD)) (.inl List.mem_cons_self) (by simp [nvs]; omega) fun F => ?_
    repeat kt_at_item
    have hl : [Value.int (-1) 0] ++ nvs (zs.map fun y => comm pl en x y) = ((-1 : Int) :: (zs.map fun y => ((comm pl en x y : Nat) : Int))).map fun i => Value.int i 0 := by simp [nvs]
    rw [hl]
    refine CK.maxL (.inl List.mem_cons_self) (by simp) fun M hM1 hM2 => ?_
    repeat kt_at_item
    rw [maxOf_eq hM1 hM2]
    have := hQ ((F, AO.list (((-1 : Int) :: (zs.map fun y => ((comm pl en x y : Nat) : Int))).map fun i => Value.int i 0)) :: (E, AO.list (nvs (zs.map fun y => comm pl en x y))) :: σ') ((hs'.trans (List.sublist_cons_self _ _)).trans (List.sublist_cons_self _ _))
    unfold nearF at this
    rw [hzz] at this
    exact this
  · rintro xv cenv hce i v vs σ' hv ⟨hd, hs', hD, rfl⟩
    have hi : i < zs.length := by have := (List.getElem?_eq_some_iff.mp hv).1; simpa [nvs] using this
    have ev : v = .int (zs[i] : Int) 0 := by
      rw [nvs, List.getElem?_map, List.getElem?_eq_getElem hi] at hv
      exact (Option.some.inj hv).symm
    subst ev
    refine WG.local (kind_of hce (by rfl)) ?_
    simp only [WTs, if_true]
    repeat kt_at_item
    refine common_ck (ha.up hs') (hb.up hs') lp le hx (hy _ (hzm _ (List.getElem_mem hi))) (h0 _ (by have := hy _ (hzm _ (List.getElem_mem hi)); omega)) ?_
    refine ⟨⟨hd, hs', hD, ?_⟩, by kt_at_in⟩
    rw [List.take_succ_eq_append_getElem hi, List.map_append]
    simp only [nvs, List.map_append]
    rfl
/- F7 -/
theorem kw1 {kw : List (Str × Value)} {n : Str} {v : Value} (h : kw.map (fun p => (p.1, er p.2)) = [(n, v)]) : ∃ u, kw = [(n, u)] ∧ er u = v := by
  obtain ⟨q, rfl, hq⟩ := List.map_eq_singleton_iff.mp h
  obtain ⟨a, b⟩ := q
  cases hq
  exact ⟨b, rfl, rfl⟩
theorem conv_ck {p : P0} {k : Nat} {σ : AH} {self : Value} {l : List Nat} {b : Bool} {Q : Value → AH → Prop} (hl : Plain l) (hn : l.length ≤ 100000) (hQ : Q (sv l) σ) : CK (gh p) (k + 1) (.ref 110) [self, sv l] [("name", .bool b)] Q σ := by
  refine CK.enter (wr := []) (by rfl) (by kernel_rfl) (by rfl) (by rfl) (by rfl) (by rfl) ?_
  intro args kw h hk
  obtain ⟨a1, a2, rfl, h1, h2⟩ := args2 h
  obtain ⟨b1, rfl, h3⟩ := kw1 hk
  refine C.binds (binds := [("self", a1), ("value", a2), ("name", b1)]) (by rfl) ⟨by rfl, ?_⟩
  dsimp only [erB, List.map]
  rw [h1, h2, h3]
  intro env he
  repeat kt_at_item
  refine CK.typeOf TyIs.str (by rfl) ?_
  repeat kt_at_item
  simp only [show (Value.type "str" == Value.type "str") = true by simp, if_true]
  repeat kt_at_item
  cases b with
  | true =>
    refine ifT rfl ?_
    repeat kt_at_item
    refine ⟨TyIs.pat (p := 75) (by rfl), ?_⟩
    repeat kt_at_item
    refine CK.search (its := nameIts) (by omega) (clean_name hl) first_name (by rfl) (by rfl) ?_
    repeat kt_at_item
    refine ifF rfl ?_
    repeat kt_at_item
    exact hQ
  | false =>
    refine ifF rfl ?_
    repeat kt_at_item
    refine ⟨TyIs.pat (p := 80) (by rfl), ?_⟩
    repeat kt_at_item
    refine CK.search (its := valIts) (by omega) (clean_val hl) first_val (by rfl) (by rfl) ?_
    repeat kt_at_item
    refine ifF rfl ?_
    repeat kt_at_item
    exact hQ
/- F8 -/
noncomputable abbrev hdrs : Str := "_headers"
/-- a Headers: what is laid in it -/
noncomputable def HL (x dx d : Addr) (ts : List (Addr × List Nat × List Nat)) : AH :=
  (x, .is (instObj 209 dx)) :: (dx, .attr hdrs (.ref d)) :: (d, .list (ts.map fun t => .ref t.1)) :: ts.map fun t => (t.1, .tup [sv t.2.1, sv t.2.2])
theorem HL.ins {x dx d : Addr} {ts : List (Addr × List Nat × List Nat)} {σ : AH} : Ins (HL x dx d ts ++ σ) x dx 209 hdrs (.ref d) := ⟨List.mem_cons_self, List.mem_cons_of_mem _ List.mem_cons_self⟩
theorem HL.lst {x dx d : Addr} {ts : List (Addr × List Nat × List Nat)} {σ : AH} : (d, AO.list (ts.map fun t => .ref t.1)) ∈ HL x dx d ts ++ σ := List.mem_cons_of_mem _ (List.mem_cons_of_mem _ List.mem_cons_self)
theorem HL.tup {x dx d : Addr} {ts : List (Addr × List Nat × List Nat)} {σ : AH} {t : Addr × List Nat × List Nat} (h : t ∈ ts) : (t.1, AO.tup [sv t.2.1, sv t.2.2]) ∈ HL x dx d ts ++ σ :=
  List.mem_append.mpr (.inl (List.mem_cons_of_mem _ (List.mem_cons_of_mem _ (List.mem_cons_of_mem _ (List.mem_map.mpr ⟨t, h, rfl⟩)))))
theorem init_ck {p : P0} {k : Nat} {σ : AH} {x dx : Addr} {Q : Value → AH → Prop} (hQ : ∀ d, Q .none (HL x dx d [] ++ σ)) : CKc (gh p) (k + 1) (.ref 103) [.ref x] [] Q ((x, .is (instObj 209 dx)) :: (dx, .is emptyDict) :: σ) := by
  refine CKc.postB ?_
  refine CKc.enter (wr := []) (by rfl) (by kernel_rfl) (by rfl) (by rfl) (by rfl) (by rfl) ?_
  intro args kw h hk
  obtain ⟨a1, rfl, h1⟩ := args1 h
  cases List.map_eq_nil_iff.mp hk
  refine C.binds (binds := [("self", a1), ("headers", .none)]) (by rfl) ⟨by rfl, ?_⟩
  dsimp only [erB, List.map, er_none0]
  rw [h1]
  intro env he
  repeat kt_at_item
  refine ifF (by rw [beq_self_eq_true]; rfl) ?_
  repeat kt_at_item
  refine W.list (WA.nil ⟨by simp, fun d => ?_⟩)
  repeat kt_at_item
  refine CK.typeOf (TyIs.list (.inl List.mem_cons_self)) (by rfl) ?_
  repeat kt_at_item
  simp only [show (Value.type "list" == Value.type "list") = true by simp, Bool.not_true, Bool.false_eq_true, if_false]
  repeat kt_at_item
  refine WX.setAttr (x := x) (C := 209) (dx := dx) (i := 2) (by kernel_rfl) (by kernel_rfl) (by kernel_rfl) (by kernel_rfl) ?_ (by rfl)
  repeat kt_at_item
  refine ⟨rfl, List.mem_cons_of_mem _ List.mem_cons_self, by rfl, ?_⟩
  repeat kt_at_item
  refine ifT rfl ?_
  refine WX.forNone ?_ (by intro _; rfl)
  repeat kt_at_item
  refine ⟨IterNil.list (.inl List.mem_cons_self), ?_⟩
  repeat kt_at_item
  exact ⟨_, Sb.perm ((List.Perm.swap _ _ _).trans ((List.Perm.swap _ _ _).cons _)), hQ d⟩
theorem make_ck {p : P0} {k : Nat} {σ : AH} {Q : Value → AH → Prop} (hQ : ∀ x dx d, Q (.ref x) (HL x dx d [] ++ σ)) : CK (gh p) (k + 2) (.ref 209) [] [] Q σ :=
  CK.make (fI := 103) (by kernel_rfl) (by kernel_rfl) (by kernel_rfl) fun x dx => init_ck fun d => ⟨rfl, hQ x dx d⟩
theorem sb_add {x dx d t a b c : Addr × AO} {T σ : AH} : Sb (x :: dx :: d :: ((T ++ [t]) ++ σ)) (t :: a :: b :: c :: x :: dx :: d :: (T ++ σ)) := by
  refine Sb.trans (b := t :: x :: dx :: d :: (T ++ σ)) (Sb.perm ?_) (Sb.cons _ (Sb.skip _ (Sb.skip _ (Sb.skip _ (Sb.refl _)))))
  rw [List.append_assoc, List.singleton_append]
  exact ((List.Perm.swap _ _ _).trans (((List.Perm.swap _ _ _).trans ((List.Perm.swap _ _ _).cons _)).cons _)).trans ((List.perm_middle.symm.cons _).cons _ |>.cons _)
theorem W.selfFn {p : P0} {k : Nat} {env : Env} {wr : List Str} {m : FM} {σ : AH} {o : Expr} {name : Str} {f : Addr} {apos pos : Pos} {es : List Expr} {kws : List Keyword} {x dx d : Addr} {Q : Value → FM → AH → Prop}
    (hf : findIn (gh p).K (.ref 209) name = some (some (.ref f))) (ht : typeIn (gh p).K (.ref f) = some (.type "function")) (hn : (hdrs == name) = false) (hkp : keepIn (gh p).K (.ref f) = true)
    (h : WV (gh p) k env wr (eval o env) (fun ov m σ => ov = .ref x ∧ Ins σ x dx 209 hdrs (.ref d) ∧ WA (gh p) k env wr pos es (fun vs m σ => WK (gh p) k env wr pos kws (fun ks m σ => CK (gh p) k (.ref f) (.ref x :: vs) ks (fun r σ => Q r m σ) σ) m σ) m σ) m σ)
    (hbase : attributeBase o name env (eval o env) = eval o env) (hplain : (starEach es env).any (·.1) = false) (hkw : kws.all (·.arg.isSome) = true)
    (hfew : methodCallForm (es.length + kws.length) (backTo pos (starEach es env)) (backToKw pos (keywordEach kws env)) = true) (hline : (apos.endLine == pos.line) = true) :
    WV (gh p) k env wr (eval (.Call (.Attribute o name apos) es kws pos) env) Q m σ :=
  W.methFn (C := 209) (f := f) (an := hdrs) (by kernel_rfl) (by kernel_rfl) hf ht hn (KP.fn hkp) h hbase hplain hkw hfew hline
theorem W.selfHdrs {p : P0} {k : Nat} {env : Env} {wr : List Str} {m : FM} {σ : AH} {n : Str} {np pos : Pos} {Q : Value → FM → AH → Prop}
    (h : WV (gh p) k env wr (eval (.Name n np) env) (fun o m σ => ∃ x dx d, o = .ref x ∧ Ins σ x dx 209 hdrs (.ref d) ∧ Q (.ref d) m σ) m σ) : WV (gh p) k env wr (eval (.Attribute (.Name n np) "_headers" pos) env) Q m σ := by
  refine W.attr (W.mono (α := Value) h ?_)
  rintro v m σ ⟨x, dx, d, e, I, q⟩
  have e' : er v = .ref x := e
  rw [e']
  exact GA.own I (by kernel_rfl) (by kernel_rfl) (by kernel_rfl) q
theorem add_ck {p : P0} {k : Nat} {σ : AH} {x dx d : Addr} {ts : List (Addr × List Nat × List Nat)} {n v : List Nat} {Q : Value → AH → Prop} (hn : Plain n) (hv : Plain v) (ln : n.length ≤ 1000) (lv : v.length ≤ 1000) (lt : ts.length ≤ 1000)
    (hQ : ∀ t, Q .none (HL x dx d (ts ++ [(t, n, v)]) ++ σ)) : CK (gh p) (k + 2) (.ref 206) [.ref x, sv n, sv v] [] Q (HL x dx d ts ++ σ) := by
  refine CK.postB ?_
  refine CK.enter (wr := []) (by rfl) (by kernel_rfl) (by rfl) (by rfl) (by rfl) (by rfl) ?_
  intro args kw h hk
  obtain ⟨a1, a2, a3, rfl, h1, h2, h3⟩ := args3 h
  cases List.map_eq_nil_iff.mp hk
  intro A B s ok S
  unfold bindArgs
  dsimp only [fnOf]
  rw [List.forIn_nil]
  refine wpAny_bind (wpAny_pure ?_)
  dsimp only
  refine wpAny_bind (wpAny_pure (a := none) ?_)
  repeat lk
  have lo : (s.heap.objs.size == sysModules) = false := by
    rw [beq_eq_false_iff_ne]
    intro e
    obtain ⟨_, _, _, hg, _⟩ := S.ok.hg
    have := Heap.lt_size (S.h0 _ _ hg)
    rw [e] at this
    exact absurd this (by decide)
  refine ⟨_, S.push (ao := .is emptyDict) ⟨rfl, rfl⟩, ?_⟩
  generalize s.heap.objs.size = D at lo ⊢
  clear S ok
  show bindsOk _ (List.map Prod.fst [("self", a1), ("_name", a2), ("_value", a3), ("_params", Value.ref D)]) = true ∧ ∀ env, env.scope = _ → WX _ _ env _ _ _ (erB [("self", a1), ("_name", a2), ("_value", a3), ("_params", Value.ref D)]) _
  refine ⟨by rfl, ?_⟩
  dsimp only [erB, List.map, er_ref0]
  rw [h1, h2, h3]
  intro env he
  repeat kt_at_item
  refine W.list (WA.nil ⟨by simp, fun pa => ?_⟩)
  repeat kt_at_item
  simp only [show ((sv v : Value) == .none) = false from rfl, Bool.not_false, if_true]
  repeat kt_at_item
  have I : Ins ((pa, AO.list []) :: (D, .is emptyDict) :: (HL x dx d ts ++ σ)) x dx 209 hdrs (.ref d) := HL.ins.up ((List.sublist_cons_self _ _).trans (List.sublist_cons_self _ _))
  refine W.selfFn (f := 110) (x := x) (dx := dx) (d := d) (by kernel_rfl) (by kernel_rfl) (by rfl) (by kernel_rfl) ?_ (by rfl) (by rfl) (by rfl) (by rfl) (by rfl)
  repeat kt_at_item
  refine ⟨rfl, I, ?_⟩
  repeat kt_at_item
  refine conv_ck hv (by omega) ?_
  repeat kt_at_item
  refine ⟨TyIs.list (.inl List.mem_cons_self), ?_⟩
  repeat kt_at_item
  refine CK.append (i := 0) (by rfl) (by simp) ?_
  repeat kt_at_item
  refine WX.forNone ?_ (by intro _; rfl)
  repeat kt_at_item
  have hD : (D, AO.is emptyDict) ∈ ((pa, AO.list [sv v]) :: (D, .is emptyDict) :: (HL x dx d ts ++ σ)) := List.mem_cons_of_mem _ List.mem_cons_self
  refine ⟨TyIs.is hD rfl rfl, ?_⟩
  repeat kt_at_item
  refine CK.items lo hD fun vw => ?_
  refine ⟨IterNil.items (d := D) List.mem_cons_self (List.mem_cons_of_mem _ hD) rfl rfl, ?_⟩
  have I2 : Ins ((vw, AO.is { cls := .type "dict_items", data := .fields #[.ref D] }) :: (pa, AO.list [sv v]) :: (D, .is emptyDict) :: (HL x dx d ts ++ σ)) x dx 209 hdrs (.ref d) := HL.ins.up ((List.sublist_cons_self _ _).trans ((List.sublist_cons_self _ _).trans (List.sublist_cons_self _ _)))
  repeat kt_at_item
  refine W.selfHdrs ?_
  repeat kt_at_item
  refine ⟨x, dx, d, rfl, I2, TyIs.list (.inl (List.mem_cons_of_mem _ (List.mem_cons_of_mem _ (List.mem_cons_of_mem _ HL.lst)))), ?_⟩
  repeat kt_at_item
  refine W.tuple ?_
  repeat kt_at_item
  refine W.selfFn (f := 110) (x := x) (dx := dx) (d := d) (by kernel_rfl) (by kernel_rfl) (by rfl) (by kernel_rfl) ?_ (by rfl) (by rfl) (by rfl) (by rfl) (by rfl)
  repeat kt_at_item
  refine ⟨rfl, I2, ?_⟩
  repeat kt_at_item
  refine conv_ck hn (by omega) ?_
  repeat kt_at_item
  refine W.cSv (l := [59, 32]) (by rfl) ?_
  refine ⟨TyIs.str, ?_⟩
  repeat kt_at_item
  refine CK.join (ps := [v]) (n := 1000) (.inl (List.mem_cons_of_mem _ List.mem_cons_self)) (by intro q hq; rw [List.mem_singleton.mp hq]; exact lv) (by simp) ?_
  have hj : List.intercalate [59, 32] [v] = v := by simp [List.intercalate]
  rw [hj]
  repeat kt_at_item
  refine ⟨by simp, fun t => ?_⟩
  repeat kt_at_item
  refine CK.append (i := 6) (by rfl) (by simpa using Nat.le_trans lt (by decide)) ?_
  repeat kt_at_item
  refine ⟨_, ?_, hQ t⟩
  have e : HL x dx d (ts ++ [(t, n, v)]) ++ σ = (x, AO.is (instObj 209 dx)) :: (dx, AO.attr hdrs (.ref d)) :: (d, AO.list (ts.map (fun t => Value.ref t.1) ++ [.ref t])) :: ((ts.map (fun t => (t.1, AO.tup [sv t.2.1, sv t.2.2])) ++ [(t, .tup [sv n, sv v])]) ++ σ) := by
    simp [HL]
  rw [e]
  exact sb_add
/- F9 -/
noncomputable abbrev HT := List (Addr × List Nat × List Nat)
theorem HL.rd {p : P0} {x dx d : Addr} {ts : HT} {σ : AH} : Rd (gh p) (HL x dx d ts ++ σ) d (.list (ts.map fun t => .ref t.1)) := .inl HL.lst
theorem HL.rt {p : P0} {x dx d : Addr} {ts : HT} {σ : AH} {i : Nat} (h : i < ts.length) : Rd (gh p) (HL x dx d ts ++ σ) (ts[i]).1 (.tup [sv (ts[i]).2.1, sv (ts[i]).2.2]) := .inl (HL.tup (List.getElem_mem h))
theorem refs_get {ts : HT} {i : Nat} {v : Value} (h : (ts.map fun t => Value.ref t.1)[i]? = some v) : ∃ hi : i < ts.length, v = .ref (ts[i]).1 := by
  have hi : i < ts.length := by have := (List.getElem?_eq_some_iff.mp h).1; simpa using this
  refine ⟨hi, ?_⟩
  rw [List.getElem?_map, List.getElem?_eq_getElem hi] at h
  exact (Option.some.inj h).symm
theorem values_ck {p : P0} {k : Nat} {σ : AH} {x dx d : Addr} {ts : HT} {Q : Value → AH → Prop} (lt : ts.length ≤ 1000) (hQ : ∀ D, Q (.ref D) ((D, .list (ts.map fun t => sv t.2.2)) :: (HL x dx d ts ++ σ))) : CK (gh p) (k + 1) (.ref 166) [.ref x] [] Q (HL x dx d ts ++ σ) := by
  refine CK.enter (wr := []) (by rfl) (by kernel_rfl) (by rfl) (by rfl) (by rfl) (by rfl) ?_
  intro args kw h hk
  obtain ⟨a1, rfl, h1⟩ := args1 h
  cases List.map_eq_nil_iff.mp hk
  refine C.binds (binds := [("self", a1)]) (by rfl) ⟨by rfl, ?_⟩
  dsimp only [erB, List.map]
  rw [h1]
  intro env he
  repeat kt_at_item
  refine W.comp he (ts.map fun t => .ref t.1) (depL (gh p) (ts.map fun t => .ref t.1)) (fun xv i ys σ' => xv = .ref d ∧ σ' = HL x dx d ts ++ σ ∧ ys = (ts.take i).map fun t => sv t.2.2) [] (by rfl) (by rfl) (by simpa using Nat.le_trans lt (by decide)) (by kt_at_in) ?_ ?_ ?_ (by intro _; rfl)
  · refine W.selfHdrs ?_
    repeat kt_at_item
    refine ⟨x, dx, d, rfl, HL.ins, It.listD HL.rd, ⟨_, List.Sublist.refl _, rfl, rfl, rfl⟩, by kt_at_in, ?_⟩
    rintro ys σ' D ⟨_, rfl, rfl⟩
    rw [List.length_map, List.take_of_length_le (Nat.le_refl _)]
    exact hQ D
  · rintro xv i ys σ' ⟨rfl, rfl, rfl⟩
    exact ⟨d, rfl, HL.rd⟩
  · rintro xv cenv hce i v ys σ' hv ⟨rfl, rfl, rfl⟩
    obtain ⟨hi, rfl⟩ := refs_get hv
    refine WG.tuple (HL.rt hi) (by rfl) (by rfl) ?_
    refine WG.local (kind_of hce (by rfl)) (WG.local (kind_of hce (by rfl)) ?_)
    simp only [WGs, WTs, if_true]
    repeat kt_at_item
    refine ⟨⟨trivial, rfl, ?_⟩, by kt_at_in⟩
    rw [List.take_succ_eq_append_getElem hi, List.map_append]; rfl
theorem keys_ck {p : P0} {k : Nat} {σ : AH} {x dx d : Addr} {ts : HT} {Q : Value → AH → Prop} (lt : ts.length ≤ 1000) (hQ : ∀ D, Q (.ref D) ((D, .list (ts.map fun t => sv t.2.1)) :: (HL x dx d ts ++ σ))) : CK (gh p) (k + 1) (.ref 161) [.ref x] [] Q (HL x dx d ts ++ σ) := by
  refine CK.enter (wr := []) (by rfl) (by kernel_rfl) (by rfl) (by rfl) (by rfl) (by rfl) ?_
  intro args kw h hk
  obtain ⟨a1, rfl, h1⟩ := args1 h
  cases List.map_eq_nil_iff.mp hk
  refine C.binds (binds := [("self", a1)]) (by rfl) ⟨by rfl, ?_⟩
  dsimp only [erB, List.map]
  rw [h1]
  intro env he
  repeat kt_at_item
  refine W.comp he (ts.map fun t => .ref t.1) (depL (gh p) (ts.map fun t => .ref t.1)) (fun xv i ys σ' => xv = .ref d ∧ σ' = HL x dx d ts ++ σ ∧ ys = (ts.take i).map fun t => sv t.2.1) [] (by rfl) (by rfl) (by simpa using Nat.le_trans lt (by decide)) (by kt_at_in) ?_ ?_ ?_ (by intro _; rfl)
  · refine W.selfHdrs ?_
    repeat kt_at_item
    refine ⟨x, dx, d, rfl, HL.ins, It.listD HL.rd, ⟨_, List.Sublist.refl _, rfl, rfl, rfl⟩, by kt_at_in, ?_⟩
    rintro ys σ' D ⟨_, rfl, rfl⟩
    rw [List.length_map, List.take_of_length_le (Nat.le_refl _)]
    exact hQ D
  · rintro xv i ys σ' ⟨rfl, rfl, rfl⟩
    exact ⟨d, rfl, HL.rd⟩
  · rintro xv cenv hce i v ys σ' hv ⟨rfl, rfl, rfl⟩
    obtain ⟨hi, rfl⟩ := refs_get hv
    refine WG.tuple (HL.rt hi) (by rfl) (by rfl) ?_
    refine WG.local (kind_of hce (by rfl)) (WG.local (kind_of hce (by rfl)) ?_)
    simp only [WGs, WTs, if_true]
    repeat kt_at_item
    refine ⟨⟨trivial, rfl, ?_⟩, by kt_at_in⟩
    rw [List.take_succ_eq_append_getElem hi, List.map_append]; rfl
theorem items_ck {p : P0} {k : Nat} {σ : AH} {x dx d : Addr} {ts : HT} {Q : Value → AH → Prop} (lt : ts.length ≤ 1000) (hQ : ∀ D, Q (.ref D) ((D, .list (ts.map fun t => .ref t.1)) :: (HL x dx d ts ++ σ))) : CK (gh p) (k + 1) (.ref 173) [.ref x] [] Q (HL x dx d ts ++ σ) := by
  refine CK.enter (wr := []) (by rfl) (by kernel_rfl) (by rfl) (by rfl) (by rfl) (by rfl) ?_
  intro args kw h hk
  obtain ⟨a1, rfl, h1⟩ := args1 h
  cases List.map_eq_nil_iff.mp hk
  refine C.binds (binds := [("self", a1)]) (by rfl) ⟨by rfl, ?_⟩
  dsimp only [erB, List.map]
  rw [h1]
  intro env he
  repeat kt_at_item
  refine W.listSliceA ?_
  refine W.selfHdrs ?_
  repeat kt_at_item
  refine ⟨x, dx, d, rfl, HL.ins, ?_⟩
  repeat kt_at_item
  exact ⟨d, _, none, none, rfl, HL.rd, by simpa using Nat.le_trans lt (by decide), rfl, rfl, hQ⟩
theorem getall_ck {p : P0} {k : Nat} {σ : AH} {x dx d : Addr} {ts : HT} {n : List Nat} {Q : Value → AH → Prop} (lt : ts.length ≤ 1000) (hn : Plain n) (hnl : Plain (n.map lowC)) (ln : n.length ≤ 1000) (hts : ∀ t ∈ ts, Plain t.2.1 ∧ t.2.1.length ≤ 1000)
    (hQ : ∀ D, Q (.ref D) ((D, .list ((ts.filter fun t => decide (t.2.1.map lowC = n.map lowC)).map fun t => sv t.2.2)) :: (HL x dx d ts ++ σ))) : CK (gh p) (k + 2) (.ref 148) [.ref x, sv n] [] Q (HL x dx d ts ++ σ) := by
  refine CK.enter (wr := ["name"]) (by rfl) (by kernel_rfl) (by rfl) (by rfl) (by rfl) (by rfl) ?_
  intro args kw h hk
  obtain ⟨a1, a2, rfl, h1, h2⟩ := args2 h
  cases List.map_eq_nil_iff.mp hk
  refine C.binds (binds := [("self", a1), ("name", a2)]) (by rfl) ⟨by rfl, ?_⟩
  dsimp only [erB, List.map]
  rw [h1, h2]
  intro env he
  repeat kt_at_item
  refine W.selfFn (f := 110) (x := x) (dx := dx) (d := d) (by kernel_rfl) (by kernel_rfl) (by rfl) (by kernel_rfl) ?_ (by rfl) (by rfl) (by rfl) (by rfl) (by rfl)
  repeat kt_at_item
  refine ⟨rfl, HL.ins, ?_⟩
  repeat kt_at_item
  refine ⟨TyIs.str, ?_⟩
  repeat kt_at_item
  refine CK.lower (lower_is fun c hc => Nat.lt_succ_of_lt (hn c hc).2) (by simpa using Nat.le_trans ln (by decide)) ?_
  repeat kt_at_item
  refine conv_ck hnl (by simpa using Nat.le_trans ln (by decide)) ?_
  repeat kt_at_item
  refine W.comp he (ts.map fun t => .ref t.1) (depL (gh p) (ts.map fun t => .ref t.1)) (fun xv i ys σ' => xv = .ref d ∧ σ' = HL x dx d ts ++ σ ∧ ys = ((ts.take i).filter fun t => decide (t.2.1.map lowC = n.map lowC)).map fun t => sv t.2.2) [("name", sv (n.map lowC))] (by rfl) (by rfl) (by simpa using Nat.le_trans lt (by decide)) (by kt_at_in) ?_ ?_ ?_ (by intro _; rfl)
  · refine W.selfHdrs ?_
    repeat kt_at_item
    refine ⟨x, dx, d, rfl, HL.ins, It.listD HL.rd, ⟨_, List.Sublist.refl _, rfl, rfl, rfl⟩, by kt_at_in, ?_⟩
    rintro ys σ' D ⟨_, rfl, rfl⟩
    rw [List.length_map, List.take_of_length_le (Nat.le_refl _)]
    exact hQ D
  · rintro xv i ys σ' ⟨rfl, rfl, rfl⟩
    exact ⟨d, rfl, HL.rd⟩
  · rintro xv cenv hce i v ys σ' hv ⟨rfl, rfl, rfl⟩
    obtain ⟨hi, rfl⟩ := refs_get hv
    obtain ⟨hp, hl⟩ := hts _ (List.getElem_mem hi)
    refine WG.local (kind_of hce (by rfl)) ?_
    dsimp only [WTs]
    repeat kt_at_item
    refine SB.tup (i := 0) (HL.rt hi) (by rfl) (by simp) ?_
    refine ⟨TyIs.str, ?_⟩
    repeat kt_at_item
    refine CK.lower (lower_is fun c hc => Nat.lt_succ_of_lt (hp c hc).2) (by simpa using Nat.le_trans hl (by decide)) ?_
    repeat kt_at_item
    rw [List.take_succ_eq_append_getElem hi, List.filter_append, List.map_append]
    by_cases hc : (ts[i]).2.1.map lowC = n.map lowC
    · simp only [hc, decide_true, if_true, List.filter_cons, List.filter_nil, List.map_cons, List.map_nil]
      repeat kt_at_item
      refine SB.tup (i := 1) (HL.rt hi) (by rfl) (by simp) ?_
      exact ⟨⟨trivial, rfl, rfl⟩, by kt_at_in⟩
    · simp only [hc, decide_false, Bool.false_eq_true, if_false, List.filter_cons, List.filter_nil, List.map_nil, List.append_nil]
      first | exact ⟨⟨trivial, trivial, trivial⟩, by kt_at_in⟩ | exact ⟨⟨trivial, trivial, rfl⟩, by kt_at_in⟩
/- F10 -/
/-- an int in figures -/
noncomputable def dig (n : Int) : List Nat := (Str.ofString (toString n)).cps.toList
theorem dig_sv (n : Int) : Value.str (Str.ofString (toString n)) 0 = sv (dig n) := rfl
theorem dig_plain {n : Int} (h : 0 ≤ n) : Plain (dig n) := by
  obtain ⟨m, rfl⟩ := Int.eq_ofNat_of_zero_le h
  intro c hc
  unfold dig at hc
  rw [KIN.signs_num] at hc
  obtain ⟨ch, hch, e⟩ := List.mem_map.mp hc
  have r := digit_range (Nat.isDigit_of_mem_toDigits (by decide) (by decide) hch)
  rw [e] at r
  omega
theorem dig_len {n : Int} (h : 0 ≤ n) (h1 : n < 10 ^ 10) : (dig n).length ≤ 1000 := by
  have := KT.len_num h h1
  have e : (dig n).length = (Str.ofString (toString n)).length := by simp [dig, Str.length]
  rw [e]; omega
theorem strOf_ck {g : Gh} {k : Nat} {σ : AH} {n : Int} {Q : Value → AH → Prop} (h0 : 0 ≤ n) (h1 : n < 10 ^ 10) (h : Q (sv (dig n)) σ) : CK g k (.type "str") [.int n 0] [] Q σ := by
  refine CK.strOfInt ?_ h
  have : n.natAbs < 2 ^ 64 := by omega
  have := Nat.log2_lt (n := n.natAbs) (k := 64)
  by_cases hz : n.natAbs = 0
  · rw [hz]; decide
  · exact Nat.lt_trans ((this hz).mpr (by omega)) (by decide)
theorem svs_getD {N : List (List Nat)} {i : Nat} (h : i < N.length) : (N.map sv)[i]? = some (sv (N.getD i [])) := by
  rw [List.getElem?_map, List.getElem?_eq_getElem h, List.getD_eq_getElem?_getD, List.getElem?_eq_getElem h]; rfl
theorem nvs_at {l : List Nat} {i : Nat} {v : Value} (h : (nvs l)[i]? = some v) : ∃ hi : i < l.length, v = .int (l[i] : Int) 0 := by
  have hi : i < l.length := by have := (List.getElem?_eq_some_iff.mp h).1; simpa [nvs] using this
  refine ⟨hi, ?_⟩
  rw [nvs, List.getElem?_map, List.getElem?_eq_getElem hi] at h
  exact (Option.some.inj h).symm
noncomputable def rowAt (N : List (List Nat)) (pl : List Int) (j : Nat) : List Nat × List Nat := (N.getD j [], dig (pl.getD j 0))
theorem index_ck {p : P0} {k : Nat} {σ : AH} {a b c : Addr} {N : List (List Nat)} {pl : List Int} {tu : List Nat} {Q : Value → AH → Prop} (ha : Rd (gh p) σ a (.list (N.map sv))) (hb : Rd (gh p) σ b (.list (iv pl))) (hc : Rd (gh p) σ c (.list (nvs tu)))
    (lN : N.length = 9) (lp : pl.length = 9) (lt : tu.length ≤ 100) (ht : ∀ j ∈ tu, j < 9) (hN : ∀ n ∈ N, Plain n ∧ n.length ≤ 1000) (hp : ∀ i ∈ pl, 0 ≤ i ∧ i < 10 ^ 10)
    (hQ : ∀ x dx d ts, ts.map (·.2) = tu.map (rowAt N pl) → Q (.ref x) (HL x dx d ts ++ σ)) : CK (gh p) (k + 3) (.ref 286) [.ref a, .ref b, .ref c] [] Q σ := by
  refine CK.enter (wr := []) (by rfl) (by kernel_rfl) (by rfl) (by rfl) (by rfl) (by rfl) ?_
  intro args kw h hk
  obtain ⟨a1, a2, a3, rfl, h1, h2, h3⟩ := args3 h
  cases List.map_eq_nil_iff.mp hk
  refine C.binds (binds := [("names", a1), ("places", a2), ("turned", a3)]) (by rfl) ⟨by rfl, ?_⟩
  dsimp only [erB, List.map]
  rw [h1, h2, h3]
  intro env he
  repeat kt_at_item
  refine make_ck fun x dx d => ?_
  repeat kt_at_item
  have up : ∀ ts, σ.Sublist (HL x dx d ts ++ σ) := fun ts => List.sublist_append_right _ _
  refine WX.for (nvs tu) (depL (gh p) (nvs tu)) (fun it i m σ' => it = .ref c ∧ Le [("index", .ref x), ("names", .ref a), ("places", .ref b), ("turned", .ref c)] m ∧ ∃ ts, σ' = HL x dx d ts ++ σ ∧ ts.map (·.2) = (tu.take i).map (rowAt N pl)) (stLocal (kind_of he (by rfl))) ?_ ?_ ?_ ?_ (by intro _; rfl)
  · repeat kt_at_item
    exact ⟨It.listD (hc.up (up _)), _, List.Sublist.refl _, rfl, by kt_at_in, [], rfl, rfl⟩
  · rintro it i m σ' ⟨rfl, _, ts, rfl, _⟩
    exact ⟨c, rfl, hc.up (up _)⟩
  · rintro it i m σ' v hv ⟨rfl, hm, ts, rfl, hts⟩
    obtain ⟨hi, rfl⟩ := nvs_at hv
    have hj := ht _ (List.getElem_mem hi)
    generalize hjj : tu[i] = j at hj ⊢
    have hNj : N.getD j [] ∈ N := by
      rw [List.getD_eq_getElem?_getD, List.getElem?_eq_getElem (by omega)]; exact List.getElem_mem _
    have hpj : pl.getD j 0 ∈ pl := by
      rw [List.getD_eq_getElem?_getD, List.getElem?_eq_getElem (by omega)]; exact List.getElem_mem _
    have hb' := hp _ hpj
    have hlt : ts.length ≤ 1000 := by
      have := congrArg List.length hts
      simp only [List.length_map, List.length_take] at this
      omega
    refine WX.le (M := [("k", .int j 0), ("index", .ref x), ("names", .ref a), ("places", .ref b), ("turned", .ref c)]) (Le.cons lookup_cons_self (Le.skip hm (by rfl))) ?_
    repeat kt_at_item
    refine W.selfFn (f := 206) (x := x) (dx := dx) (d := d) (by kernel_rfl) (by kernel_rfl) (by rfl) (by kernel_rfl) ?_ (by rfl) (by rfl) (by rfl) (by rfl) (by rfl)
    repeat kt_at_item
    refine ⟨rfl, HL.ins, ?_⟩
    repeat kt_at_item
    refine SB.list (ha.up (up _)) (by first | exact Int.natCast_nonneg _ | omega) (by first | exact lt63 (by with_reducible assumption) | omega) (by rw [Int.toNat_natCast]; exact svs_getD (by omega)) ?_
    repeat kt_at_item
    refine SB.list (hb.up (up _)) (by first | exact Int.natCast_nonneg _ | omega) (by first | exact lt63 (by with_reducible assumption) | omega) (by rw [Int.toNat_natCast]; exact iv_getD (by omega)) ?_
    repeat kt_at_item
    refine strOf_ck hb'.1 hb'.2 ?_
    repeat kt_at_item
    refine add_ck (hN _ hNj).1 (dig_plain hb'.1) (hN _ hNj).2 (dig_len hb'.1 hb'.2) hlt fun t => ?_
    repeat kt_at_item
    refine ⟨rfl, by kt_at_in, _, rfl, ?_⟩
    rw [List.map_append, hts, List.take_succ_eq_append_getElem hi, List.map_append, hjj]
    rfl
  · rintro it m σ' ⟨rfl, hm, ts, rfl, hts⟩
    refine WX.le hm ?_
    repeat kt_at_item
    refine hQ x dx d ts ?_
    rw [hts, List.take_of_length_le (by simp [nvs])]
/- F11 -/
noncomputable def pyTab (t : List (Nat × List Nat)) : List (PyData × PyData) := t.map fun q => (.str (ss [q.1]), .str (ss q.2))
theorem look_tab (c : Nat) : ∀ t : List (Nat × List Nat), (PySem.Spec.lookup (.str (ss [c])) (pyTab t)).getD (.str (ss [c])) = .str (ss (refOf t c))
  | [] => rfl
  | (x, z) :: r => by
    have ih := look_tab c r
    have hs : PySem.Spec.same (.str (ss [x])) (.str (ss [c])) = decide (x = c) := by
      have e : PySem.Spec.same (.str (ss [x])) (.str (ss [c])) = (ss [x] == ss [c]) := rfl
      rw [e, ss_eq]
      by_cases h : x = c <;> simp [h]
    show (if PySem.Spec.same (.str (ss [x])) (.str (ss [c])) = true then some (PyData.str (ss z)) else PySem.Spec.lookup (.str (ss [c])) (pyTab r)).getD (.str (ss [c])) = _
    rw [hs]
    by_cases h : x = c
    · simp [h, refOf]
    · simp only [h, decide_false, Bool.false_eq_true, if_false]
      rw [ih]
      simp [refOf, h]
noncomputable def tab_attrib' : List (Nat × List Nat) := [(38, [38, 97, 109, 112, 59]), (60, [38, 108, 116, 59]), (62, [38, 103, 116, 59]), (34, [38, 113, 117, 111, 116, 59]), (13, [38, 35, 49, 51, 59]), (10, [38, 35, 49, 48, 59]), (9, [38, 35, 48, 57, 59])]
noncomputable def tab_attrib_c14n' : List (Nat × List Nat) := [(38, [38, 97, 109, 112, 59]), (60, [38, 108, 116, 59]), (34, [38, 113, 117, 111, 116, 59]), (13, [38, 35, 120, 68, 59]), (10, [38, 35, 120, 65, 59]), (9, [38, 35, 120, 57, 59])]
noncomputable def tabS (way : Nat) : List (Nat × List Nat) := if way = 0 then tab_cdata else if way = 1 then tab_cdata_c14n else if way = 2 then tab_attrib' else tab_attrib_c14n'
theorem ref_len {way : Nat} (hw : way < 4) (c : Nat) : (refOf (tabS way) c).length ≤ 100 := by
  unfold refOf
  split
  · rename_i q hq
    have hm := List.mem_of_find?_eq_some hq
    have key : ∀ q ∈ tabS way, q.2.length ≤ 100 := by
      rcases lt4 hw with rfl | rfl | rfl | rfl <;> decide
    exact key q hm
  · simp
theorem flat_inter : ∀ l : List (List Nat), (List.intersperse [] l).flatten = l.flatten
  | [] => rfl
  | [a] => by simp
  | a :: b :: r => by
    have := flat_inter (b :: r)
    rw [List.intersperse_cons_cons]
    simp only [List.flatten_cons, List.nil_append]
    rw [this]; rfl
theorem spelled_ck {p : P0} {k : Nat} {σ : AH} {l : List Nat} {way : Nat} {Q : Value → AH → Prop} (hw : way < 4) (hl : l.length ≤ 100) (hQ : Q (sv (l.flatMap (refOf (tabS way)))) σ) : CK (gh p) (k + 1) (.ref 267) [sv l, .int way 0] [] Q σ := by
  refine CK.post ?_
  refine CK.enter (wr := ["refs"]) (by rfl) (by kernel_rfl) (by rfl) (by rfl) (by rfl) (by rfl) ?_
  intro args kw ha hk
  obtain ⟨a1, a2, rfl, h1, h2⟩ := args2 ha
  cases List.map_eq_nil_iff.mp hk
  refine C.binds (binds := [("text", a1), ("way", a2)]) (by rfl) ⟨by rfl, ?_⟩
  dsimp only [erB, List.map]
  rw [h1, h2]
  intro env he
  repeat kt_at_item
  refine W.list ?_
  repeat kt_at_item
  with_reducible refine' W.dict (D := pyTab tab_cdata) ?q1 ?q2 ?q3 ?q4 ?q5 ?q6 ?q7 ?_
  case q1 => kernel_rfl
  case q2 => kernel_rfl
  case q3 => decide +kernel
  case q4 => rfl
  case q5 => rfl
  case q6 => simp
  case q7 => decide
  intro a0 o0 t0 s0
  repeat kt_at_item
  with_reducible refine' W.dict (D := pyTab tab_cdata_c14n) ?q1 ?q2 ?q3 ?q4 ?q5 ?q6 ?q7 ?_
  case q1 => kernel_rfl
  case q2 => kernel_rfl
  case q3 => decide +kernel
  case q4 => rfl
  case q5 => rfl
  case q6 => simp
  case q7 => decide
  intro a1 o1 t1 s1
  repeat kt_at_item
  with_reducible refine' W.dict (D := pyTab tab_attrib') ?q1 ?q2 ?q3 ?q4 ?q5 ?q6 ?q7 ?_
  case q1 => kernel_rfl
  case q2 => kernel_rfl
  case q3 => decide +kernel
  case q4 => rfl
  case q5 => rfl
  case q6 => simp
  case q7 => decide
  intro a2 o2 t2 s2
  repeat kt_at_item
  with_reducible refine' W.dict (D := pyTab tab_attrib_c14n') ?q1 ?q2 ?q3 ?q4 ?q5 ?q6 ?q7 ?_
  case q1 => kernel_rfl
  case q2 => kernel_rfl
  case q3 => decide +kernel
  case q4 => rfl
  case q5 => rfl
  case q6 => simp
  case q7 => decide
  intro a3 o3 t3 s3
  repeat kt_at_item
  refine ⟨by simp, fun E => ?_⟩
  repeat kt_at_item
  refine GenE (((E, AO.list [Value.ref a0, .ref a1, .ref a2, .ref a3]) :: (a3, AO.is o3) :: (a2, AO.is o2) :: (a1, AO.is o1) :: (a0, AO.is o0) :: σ)) ?_
  intro σE hσ
  have hsub : σ.Sublist σE := by rw [← hσ]; exact (List.sublist_cons_self _ _).trans ((List.sublist_cons_self _ _).trans ((List.sublist_cons_self _ _).trans ((List.sublist_cons_self _ _).trans (List.sublist_cons_self _ _))))
  have hE : Rd (gh p) σE E (.list [Value.ref a0, .ref a1, .ref a2, .ref a3]) := by rw [← hσ]; exact .inl List.mem_cons_self
  have hd : ∃ aw ow, [Value.ref a0, .ref a1, .ref a2, .ref a3][way]? = some (.ref aw) ∧ (aw, AO.is ow) ∈ σE ∧ PyProof.Rows.TabObj (strKind (gh p).prog (gh p).w) PyData.str (pyTab (tabS way)) ow ∧ (aw == sysModules) = false := by
    rw [← hσ]
    rcases lt4 hw with rfl | rfl | rfl | rfl
    · exact ⟨a0, o0, rfl, by simp, t0, s0⟩
    · exact ⟨a1, o1, rfl, by simp, t1, s1⟩
    · exact ⟨a2, o2, rfl, by simp, t2, s2⟩
    · exact ⟨a3, o3, rfl, by simp, t3, s3⟩
  obtain ⟨aw, ow, hget, hmem, htab, hlo⟩ := hd
  clear hσ
  refine SB.list hE (by first | exact Int.natCast_nonneg _ | omega) (by first | exact lt63 (by with_reducible assumption) | omega) (by rw [Int.toNat_natCast]; exact hget) ?_
  repeat kt_at_item
  refine W.cSv (l := []) (by rfl) ?_
  refine ⟨TyIs.str, ?_⟩
  repeat kt_at_item
  refine W.comp he (signVs (ss l)) (fun _ _ => True) (fun xv i ys σ' => σ' = σE ∧ ys = (l.take i).map fun c => sv (refOf (tabS way) c)) [("refs", .ref aw)] (by rfl) (by rfl) (by simp [signVs]; omega) (by kt_at_in) ?_ (fun _ _ _ _ _ => trivial) ?_ (by intro _; rfl)
  · repeat kt_at_item
    refine ⟨It.triv It.str (fun _ _ => trivial), ⟨_, List.Sublist.refl _, rfl, rfl⟩, by kt_at_in, ?_⟩
    rintro ys σ' D ⟨rfl, rfl⟩
    have hlen : (signVs (ss l)).length = l.length := by simp [signVs]
    rw [hlen, List.take_of_length_le (Nat.le_refl _)]
    repeat kt_at_item
    have hm : (l.map fun c => sv (refOf (tabS way) c)) = (l.map fun c => refOf (tabS way) c).map sv := by rw [List.map_map]; rfl
    rw [hm]
    refine CK.join (n := 100) (.inl List.mem_cons_self) ?_ ?_ ?_
    · intro q hq
      obtain ⟨c, _, rfl⟩ := List.mem_map.mp hq
      exact ref_len hw c
    · simp; omega
    · refine ⟨σ, hsub.trans (List.sublist_cons_self _ _), ?_⟩
      have hi : List.intercalate [] (l.map fun c => refOf (tabS way) c) = l.flatMap (refOf (tabS way)) := by
        rw [List.flatMap_def]; simp [List.intercalate]; exact flat_inter _
      rw [hi]; exact hQ
  · rintro xv cenv hce i v ys σ' hv ⟨rfl, rfl⟩
    have hi : i < l.length := by have := (List.getElem?_eq_some_iff.mp hv).1; simpa [signVs] using this
    have ev : v = sv [l[i]] := by
      rw [signVs, List.getElem?_map] at hv
      simp only [List.getElem?_eq_getElem hi, Option.map_some, Option.some.injEq] at hv
      exact hv.symm
    subst ev
    refine WG.local (kind_of hce (by rfl)) ?_
    simp only [WTs, if_true]
    repeat kt_at_item
    obtain ⟨kvs, ⟨es, ep, hx, hdat, _⟩, _⟩ := id htab
    refine ⟨TyIs.is hmem hx.1 hx.2.1, ?_⟩
    repeat kt_at_item
    refine CK.get2 hmem htab hlo (look_tab l[i] (tabS way)) ?_
    refine ⟨⟨rfl, ?_⟩, by kt_at_in⟩
    rw [List.take_succ_eq_append_getElem hi, List.map_append]; rfl
/- F12 -/
theorem rangeVs_nat (a b : Nat) : rangeVs (a : Int) (b : Int) 1 = nvs (List.range' a (b - a)) := by
  unfold rangeVs nvs
  rw [rangeSize_nat, List.range'_eq_map_range, List.map_map]
  have : (((b : Int) - (a : Int)).toNat : Int).toNat = b - a := by omega
  rw [this]
  apply List.map_congr_left
  intro i _
  simp
theorem small_nat {a b : Nat} (ha : a ≤ 1000) (hb : b ≤ 1000) : Builtin.Range.small (a : Int) (b : Int) 1 = true := by
  have hf : ∀ i : Int, -10000 ≤ i → i ≤ 10000 → Builtin.Range.rangeFitsLong i = true := fun i h1 h2 => by
    unfold Builtin.Range.rangeFitsLong
    simp only [Bool.and_eq_true, decide_eq_true_eq]
    omega
  unfold Builtin.Range.small
  rw [rangeSize_nat]
  rw [hf _ (by omega) (by omega), hf _ (by omega) (by omega), hf 1 (by omega) (by omega), hf _ (by omega) (by omega)]
  simp only [Bool.true_and, Bool.or_eq_true, beq_iff_eq]
  right
  simp only [show (1 : Int) > 0 by decide, if_true]
  exact hf _ (by omega) (by omega)
/-- a walk over a range of counts -/
theorem It.rangeN {g : Gh} {σ : AH} {r : Addr} {a b : Nat} {o : Obj} (ha : a ≤ 1000) (hb : b ≤ 1000) (h : (r, AO.is o) ∈ σ) (ho : rangeObj a b 1 o) {dep : Value → AH → Prop} (hd : ∀ x σ, dep x σ) : It g (.ref r) (nvs (List.range' a (b - a))) (dep (.ref r)) σ := by
  have := It.range (g := g) h ho (small_nat ha hb)
  rw [rangeVs_nat] at this
  exact this.triv hd
theorem range'_get {a n i : Nat} (h : i < (List.range' a n).length) : (List.range' a n)[i] = a + i := by simp
theorem mem_iv_nvs {l : List Nat} {n : Int} (h : 0 ≤ n) : (n ∈ l.map fun (i : Nat) => (i : Int)) ↔ n.toNat ∈ l := by
  rw [List.mem_map]
  constructor
  · rintro ⟨i, hi, rfl⟩; simpa using hi
  · intro hi; exact ⟨n.toNat, hi, by omega⟩
theorem both_nvs (l : List Nat) : Both RI (nvs l) (l.map fun (i : Nat) => (i : Int)) := by rw [nvs_iv]; exact both_iv _
theorem parts_ck {p : P0} {k : Nat} {σ : AH} {a b : Addr} {par : List Int} {wh : List Nat} {Q : Value → AH → Prop} (ha : Rd (gh p) σ a (.list (iv par))) (hb : Rd (gh p) σ b (.list (nvs wh))) (hp : Pre par)
    (hQ : ∀ D, Q (.ref D) ((D, .list (iv ((List.range' 0 9).map (partOf par wh)))) :: σ)) : CK (gh p) (k + 1) (.ref 329) [.ref a, .ref b] [] Q σ := by
  refine CK.enter (wr := []) (by rfl) (by kernel_rfl) (by rfl) (by rfl) (by rfl) (by rfl) ?_
  intro args kw h hk
  obtain ⟨a1, a2, rfl, h1, h2⟩ := args2 h
  cases List.map_eq_nil_iff.mp hk
  refine C.binds (binds := [("lefts", a1), ("whole", a2)]) (by rfl) ⟨by rfl, ?_⟩
  dsimp only [erB, List.map]
  rw [h1, h2]
  intro env he
  repeat kt_at_item
  refine W.list (WA.nil ⟨by simp, fun D => ?_⟩)
  refine WX.for (nvs (List.range' 0 9)) (fun _ _ => True) (fun _ i m σ' => Le [("parts", .ref D), ("lefts", .ref a), ("whole", .ref b)] m ∧ σ' = (D, .list (iv (((List.range' 0 9).take i).map (partOf par wh)))) :: σ) (stLocal (kind_of he (by rfl))) ?_ (fun _ _ _ _ _ => trivial) ?_ ?_ (by intro _; rfl)
  · repeat kt_at_item
    refine CK.range1 fun R o ho => ?_
    exact ⟨It.rangeN (a := 0) (b := 9) (by decide) (by decide) List.mem_cons_self ho (fun _ _ => trivial), _, List.sublist_cons_self _ _, by kt_at_in, rfl⟩
  · rintro it i m σ' v hv ⟨hm, rfl⟩
    obtain ⟨hi, rfl⟩ := nvs_at hv
    rw [range'_get]
    have hi9 : i < 9 := by simpa using hi
    refine WX.le (M := [("k", .int ((0 + i : Nat) : Int) 0), ("parts", .ref D), ("lefts", .ref a), ("whole", .ref b)]) (Le.cons lookup_cons_self (Le.skip hm (by rfl))) ?_
    rw [Nat.zero_add]
    repeat kt_at_item
    have up : σ.Sublist ((D, AO.list (iv (((List.range' 0 9).take i).map (partOf par wh)))) :: σ) := List.sublist_cons_self _ _
    refine WX.while (fun n m σ' => ∃ q : Int, -1 ≤ q ∧ q < 9 ∧ q + 1 ≤ n ∧ climbF par wh n q = partOf par wh i ∧ Le [("part", .int q 0), ("k", .int i 0), ("parts", .ref D), ("lefts", .ref a), ("whole", .ref b)] m ∧ σ' = (D, .list (iv (((List.range' 0 9).take i).map (partOf par wh)))) :: σ) (i + 1) ⟨i, by omega, by omega, by omega, rfl, by kt_at_in, rfl⟩ ?_
    rintro n m σ' ⟨q, hq1, hq2, hqn, hc, hm, rfl⟩
    refine WT.le hm ?_
    refine WT.all ?_
    dsimp only [WAll]
    repeat kt_at_item
    by_cases hq0 : q ≥ 0
    · refine iteY hq0 ?_
      repeat kt_at_item
      refine CO.notInL (R := RI) EqR.int (c := q) rfl ⟨b, _, rfl, hb.up up, both_nvs wh⟩ ?_
      repeat kt_at_item
      obtain ⟨n', rfl⟩ : ∃ n', n = n' + 1 := ⟨n - 1, by omega⟩
      by_cases hw : q ∈ wh.map fun (i : Nat) => (i : Int)
      · simp only [hw, decide_true, Bool.not_true, Bool.false_eq_true, if_false]
        repeat kt_at_item
        have e : partOf par wh i = q := by
          rw [← hc]
          unfold climbF
          rw [if_neg (by intro h; exact h.2 ((mem_iv_nvs hq0).mp hw))]
        refine ⟨TyIs.list (.inl List.mem_cons_self), ?_⟩
        repeat kt_at_item
        refine CK.append (i := 0) (by rfl) (by simp [iv]; omega) ?_
        repeat kt_at_item
        refine ⟨by kt_at_in, ?_⟩
        show (D, _) :: σ = _
        rw [List.take_succ_eq_append_getElem hi, List.map_append, range'_get, Nat.zero_add]
        simp only [iv, List.map_append, List.map_cons, List.map_nil, e]
      · simp only [hw, decide_false, Bool.not_false, if_true]
        repeat kt_at_item
        have hlt : q.toNat < 9 := by omega
        refine SB.list (ha.up up) hq0 (by omega) (iv_getD (by rw [hp.len]; exact hlt)) ?_
        repeat kt_at_item
        have h1 := hp.low hlt
        have h2 := hp.hi q.toNat hlt
        refine ⟨n', Nat.lt_succ_self _, par.getD q.toNat 0, h1, by omega, by omega, ?_, by kt_at_in, rfl⟩
        rw [← hc]
        conv => rhs; unfold climbF
        rw [if_pos ⟨hq0, fun h => hw ((mem_iv_nvs hq0).mpr h)⟩]
    · simp only [hq0, decide_false, Bool.false_eq_true, if_false]
      repeat kt_at_item
      have e : partOf par wh i = q := by
        rw [← hc]
        cases n with
        | zero => rfl
        | succ n' => unfold climbF; rw [if_neg (fun h => hq0 h.1)]
      refine ⟨TyIs.list (.inl List.mem_cons_self), ?_⟩
      repeat kt_at_item
      refine CK.append (i := 0) (by rfl) (by simp [iv]; omega) ?_
      repeat kt_at_item
      refine ⟨by kt_at_in, ?_⟩
      show (D, _) :: σ = _
      rw [List.take_succ_eq_append_getElem hi, List.map_append, range'_get, Nat.zero_add]
      simp only [iv, List.map_append, List.map_cons, List.map_nil, e]
  · rintro it m σ' ⟨hm, rfl⟩
    refine WX.le hm ?_
    repeat kt_at_item
    exact hQ D
/- F13 -/
theorem word_low : ∀ c, c < 8 → Txt.lower (ss (wordOf c)) = ss (lowW c) := fun c hc => by
  obtain ⟨h, e⟩ := (by decide : ∀ c : Fin 8, (∀ x ∈ wordOf c.val, x < 128) ∧ (wordOf c.val).map lowC = lowW c.val) ⟨c, hc⟩
  rw [lower_is h]
  exact congrArg ss e
theorem wordv_getD {Wc : List Nat} {i : Nat} (h : i < Wc.length) : (Wc.map fun c => sv (wordOf c))[i]? = some (sv (wordOf (Wc.getD i 0))) := by
  rw [List.getElem?_map, List.getElem?_eq_getElem h, List.getD_eq_getElem?_getD, List.getElem?_eq_getElem h]; rfl
theorem getD_lt {Wc : List Nat} {i n : Nat} (h : ∀ c ∈ Wc, c < n) (hi : i < Wc.length) : Wc.getD i 0 < n := by
  rw [List.getD_eq_getElem?_getD, List.getElem?_eq_getElem hi]; exact h _ (List.getElem_mem hi)
theorem whole_ck {p : P0} {k : Nat} {σ : AH} {a b : Addr} {par : List Int} {Wc : List Nat} {Q : Value → AH → Prop} (ha : Rd (gh p) σ a (.list (iv par))) (hb : Rd (gh p) σ b (.list (Wc.map fun c => sv (wordOf c)))) (lp : par.length = 9) (lW : Wc.length = 9) (hW : ∀ c ∈ Wc, c < 8)
    (hQ : ∀ D, Q (.ref D) ((D, .list (nvs (wholeF par Wc))) :: σ)) : CK (gh p) (k + 1) (.ref 322) [.ref a, .ref b] [] Q σ := by
  refine CK.enter (wr := ["words"]) (by rfl) (by kernel_rfl) (by rfl) (by rfl) (by rfl) (by rfl) ?_
  intro args kw h hk
  obtain ⟨a1, a2, rfl, h1, h2⟩ := args2 h
  cases List.map_eq_nil_iff.mp hk
  refine C.binds (binds := [("lefts", a1), ("words", a2)]) (by rfl) ⟨by rfl, ?_⟩
  dsimp only [erB, List.map]
  rw [h1, h2]
  intro env he
  repeat kt_at_item
  refine W.list (WA.nil ⟨by simp, fun D => ?_⟩)
  refine WX.for (nvs (List.range' 0 9)) (fun _ _ => True) (fun _ i m σ' => Le [("whole", .ref D), ("lefts", .ref a), ("words", .ref b)] m ∧ σ' = (D, .list (nvs (((List.range' 0 9).take i).filter fun k => has3 (kindsF par Wc k)))) :: σ) (stLocal (kind_of he (by rfl))) ?_ (fun _ _ _ _ _ => trivial) ?_ ?_ (by intro _; rfl)
  · repeat kt_at_item
    refine CK.range1 fun R o ho => ?_
    exact ⟨It.rangeN (a := 0) (b := 9) (by decide) (by decide) List.mem_cons_self ho (fun _ _ => trivial), _, List.sublist_cons_self _ _, by kt_at_in, rfl⟩
  · rintro it i m σ' v hv ⟨hm, rfl⟩
    obtain ⟨hi, rfl⟩ := nvs_at hv
    rw [range'_get]
    have hi9 : i < 9 := by simpa using hi
    refine WX.le (M := [("k", .int ((0 + i : Nat) : Int) 0), ("whole", .ref D), ("lefts", .ref a), ("words", .ref b)]) (Le.cons lookup_cons_self (Le.skip hm (by rfl))) ?_
    rw [Nat.zero_add]
    repeat kt_at_item
    refine W.list ?_
    repeat kt_at_item
    refine ⟨by simp, fun I => ?_⟩
    generalize hσ : (D, AO.list (nvs (((List.range' 0 9).take i).filter fun k => has3 (kindsF par Wc k)))) :: σ = σ1
    have up : σ.Sublist σ1 := by rw [← hσ]; exact List.sublist_cons_self _ _
    repeat kt_at_item
    refine WX.for (nvs (List.range' (i + 1) (9 - (i + 1)))) (fun _ _ => True) (fun _ n m σ' => Le [("inside", .ref I), ("k", .int i 0), ("whole", .ref D), ("lefts", .ref a), ("words", .ref b)] m ∧ σ' = (I, .list (nvs (((List.range' (i + 1) (9 - (i + 1))).take n).foldl (insStep par) [i]))) :: σ1) (stLocal (kind_of he (by rfl))) ?_ (fun _ _ _ _ _ => trivial) ?_ ?_ (by intro _; rfl)
    · repeat kt_at_item
      have e1 : (i : Int) + 1 = ((i + 1 : Nat) : Int) := by omega
      rw [e1]
      refine CK.range2 fun R o ho => ?_
      exact ⟨It.rangeN (a := i + 1) (b := 9) (by omega) (by decide) List.mem_cons_self ho (fun _ _ => trivial), _, List.sublist_cons_self _ _, by kt_at_in, rfl⟩
    · rintro it n m σ' v hv ⟨hm, rfl⟩
      obtain ⟨hn, rfl⟩ := nvs_at hv
      rw [range'_get]
      have hn9 : i + 1 + n < 9 := by simp at hn; omega
      generalize hacc : ((List.range' (i + 1) (9 - (i + 1))).take n).foldl (insStep par) [i] = acc
      have hal : acc.length ≤ 20 := by
        rw [← hacc]
        refine Nat.le_trans (ins_length par _ _) ?_
        simp only [List.length_cons, List.length_nil, List.length_take, List.length_range']; omega
      refine WX.le (M := [("j", .int ((i + 1 + n : Nat) : Int) 0), ("inside", .ref I), ("k", .int i 0), ("whole", .ref D), ("lefts", .ref a), ("words", .ref b)]) (Le.cons lookup_cons_self (Le.skip hm (by rfl))) ?_
      repeat kt_at_item
      refine SB.list (ha.up (up.trans (List.sublist_cons_self _ _))) (by first | exact Int.natCast_nonneg _ | omega) (by first | exact lt63 (by with_reducible assumption) | omega) (by rw [Int.toNat_natCast]; exact iv_getD (by omega)) ?_
      repeat kt_at_item
      refine CO.inL (R := RI) EqR.int (c := par.getD (i + 1 + n) 0) rfl ⟨I, _, rfl, .inl List.mem_cons_self, both_nvs acc⟩ ?_
      repeat kt_at_item
      have estep : ((List.range' (i + 1) (9 - (i + 1))).take (n + 1)).foldl (insStep par) [i] = insStep par acc (i + 1 + n) := by
        rw [List.take_succ_eq_append_getElem hn, List.foldl_append, hacc, range'_get]; rfl
      by_cases hc : par.getD (i + 1 + n) 0 ∈ acc.map fun (i : Nat) => (i : Int)
      · refine iteY hc ?_
        repeat kt_at_item
        refine ⟨TyIs.list (.inl List.mem_cons_self), ?_⟩
        repeat kt_at_item
        refine CK.append (i := 0) (by rfl) (by simp [nvs]; omega) ?_
        repeat kt_at_item
        refine ⟨by kt_at_in, ?_⟩
        rw [estep]
        show (I, _) :: σ1 = _
        unfold insStep
        rw [if_pos hc]
        simp [nvs]
      · refine iteN hc ?_
        repeat kt_at_item
        refine ⟨by kt_at_in, ?_⟩
        rw [estep]
        unfold insStep
        rw [if_neg hc]
    · rintro it m σ' ⟨hm, rfl⟩
      have hall : ((List.range' (i + 1) (9 - (i + 1))).take (nvs (List.range' (i + 1) (9 - (i + 1)))).length).foldl (insStep par) [i] = insideF par i := by
        rw [List.take_of_length_le (by simp [nvs])]
        unfold insideF
        rw [show 9 - (i + 1) = 8 - i by omega]
      rw [hall]
      refine WX.le hm ?_
      have hil : (insideF par i).length ≤ 20 := by
        refine Nat.le_trans (ins_length par _ _) ?_
        simp only [List.length_cons, List.length_nil, List.length_range']; omega
      have hi9' : ∀ j ∈ insideF par i, j < 9 := ins_lt par _ _ (fun j hj => by have := List.mem_range'.mp hj; omega) (fun j hj => by rw [List.mem_singleton.mp hj]; exact hi9)
      have hRI : Rd (gh p) ((I, AO.list (nvs (insideF par i))) :: σ1) I (.list (nvs (insideF par i))) := .inl List.mem_cons_self
      refine WX.asgComp he (nvs (insideF par i)) (depL (gh p) (nvs (insideF par i))) (fun xv n ys σ' => xv = .ref I ∧ σ' = (I, .list (nvs (insideF par i))) :: σ1 ∧ ys = ((insideF par i).take n).map fun j => sv (lowW (Wc.getD j 0))) [("words", .ref b)] (kind_of he (by rfl)) (by rfl) (by rfl) (by rfl) (by simp [nvs]; omega) (by kt_at_in) ?_ ?_ ?_ (by intro _; rfl)
      · repeat kt_at_item
        refine ⟨It.listD hRI, ⟨_, List.Sublist.refl _, rfl, rfl, rfl⟩, by kt_at_in, ?_⟩
        rintro ys σ' K ⟨_, rfl, rfl⟩
        have ht : (insideF par i).take (nvs (insideF par i)).length = insideF par i := List.take_of_length_le (by simp [nvs])
        rw [ht]
        have hks : ((insideF par i).map fun j => sv (lowW (Wc.getD j 0))) = (kindsF par Wc i).map sv := by unfold kindsF; rw [List.map_map]; rfl
        rw [hks]
        have hRL : RL (gh p) ((K, AO.list ((kindsF par Wc i).map sv)) :: (I, AO.list (nvs (insideF par i))) :: σ1) RS (.ref K) (kindsF par Wc i) := ⟨K, _, rfl, .inl List.mem_cons_self, both_sv _⟩
        have hfin : ∀ (c : Bool), c = has3 (kindsF par Wc i) → nvs (((List.range' 0 9).take (i + 1)).filter fun k => has3 (kindsF par Wc k)) = nvs (((List.range' 0 9).take i).filter fun k => has3 (kindsF par Wc k)) ++ (if c then [Value.int (i : Int) 0] else []) := by
          rintro c rfl
          rw [List.take_succ_eq_append_getElem hi, List.filter_append, range'_get, Nat.zero_add]
          simp only [nvs, List.map_append, List.filter_cons, List.filter_nil]
          split <;> rfl
        have hl9 : (nvs (((List.range' 0 9).take i).filter fun k => has3 (kindsF par Wc k))).length ≤ 9 := by
          simp only [nvs, List.length_map]
          refine Nat.le_trans (List.length_filter_le _ _) ?_
          simp; omega
        have hskip : σ1.Sublist ((K, AO.list ((kindsF par Wc i).map sv)) :: (I, AO.list (nvs (insideF par i))) :: σ1) := (List.sublist_cons_self _ _).trans (List.sublist_cons_self _ _)
        refine WX.ite (WT.all ?_)
        dsimp only [WAll]
        refine WT.compare ?_ (by rfl)
        refine W.cSv (l := [97, 38]) (by rfl) ?_
        repeat kt_at_item
        refine CO.inL (R := RS) EqR.str (c := [97, 38]) rfl hRL ?_
        repeat kt_at_item
        by_cases c1 : [97, 38] ∈ kindsF par Wc i
        · simp only [c1, decide_true, if_true]
          refine WT.compare ?_ (by rfl)
          refine W.cSv (l := [98, 60]) (by rfl) ?_
          repeat kt_at_item
          refine CO.inL (R := RS) EqR.str (c := [98, 60]) rfl hRL ?_
          repeat kt_at_item
          by_cases c2 : [98, 60] ∈ kindsF par Wc i
          · simp only [c2, decide_true, if_true]
            refine WT.compare ?_ (by rfl)
            refine W.cSv (l := [99, 38, 60]) (by rfl) ?_
            repeat kt_at_item
            refine CO.inL (R := RS) EqR.str (c := [99, 38, 60]) rfl hRL ?_
            repeat kt_at_item
            by_cases c3 : [99, 38, 60] ∈ kindsF par Wc i
            · simp only [c3, decide_true, if_true]
              have hh : has3 (kindsF par Wc i) = true := by simp [has3, c1, c2, c3]
              refine WX.drop hskip ?_
              subst hσ
              repeat kt_at_item
              refine ⟨TyIs.list (.inl List.mem_cons_self), ?_⟩
              repeat kt_at_item
              refine CK.append (i := 0) (by rfl) (by omega) ?_
              repeat kt_at_item
              refine ⟨by kt_at_in, ?_⟩
              rw [hfin true hh.symm]; rfl
            · simp only [c3, decide_false, Bool.false_eq_true, if_false]
              have hh : has3 (kindsF par Wc i) = false := by simp [has3, c1, c2, c3]
              refine WX.drop hskip ?_
              subst hσ
              repeat kt_at_item
              refine ⟨by kt_at_in, ?_⟩
              rw [hfin false hh.symm]; simp
          · simp only [c2, decide_false, Bool.false_eq_true, if_false]
            have hh : has3 (kindsF par Wc i) = false := by simp [has3, c1, c2]
            refine WX.drop hskip ?_
            subst hσ
            repeat kt_at_item
            refine ⟨by kt_at_in, ?_⟩
            rw [hfin false hh.symm]; simp
        · simp only [c1, decide_false, Bool.false_eq_true, if_false]
          have hh : has3 (kindsF par Wc i) = false := by simp [has3, c1]
          refine WX.drop hskip ?_
          subst hσ
          repeat kt_at_item
          refine ⟨by kt_at_in, ?_⟩
          rw [hfin false hh.symm]; simp
      · rintro xv n ys σ' ⟨rfl, rfl, rfl⟩
        exact ⟨I, rfl, hRI⟩
      · rintro xv cenv hce n v ys σ' hv ⟨rfl, rfl, rfl⟩
        obtain ⟨hn, rfl⟩ := nvs_at hv
        have hj := hi9' _ (List.getElem_mem hn)
        refine WG.local (kind_of hce (by rfl)) ?_
        simp only [WTs, if_true]
        repeat kt_at_item
        refine SB.list (hb.up (up.trans (List.sublist_cons_self _ _))) (by first | exact Int.natCast_nonneg _ | omega) (by first | exact lt63 (by with_reducible assumption) | omega) (by rw [Int.toNat_natCast]; exact wordv_getD (by omega)) ?_
        refine ⟨TyIs.str, ?_⟩
        repeat kt_at_item
        have hc8 := getD_lt (i := (insideF par i)[n]) hW (by omega)
        refine CK.lower (word_low _ hc8) ?_ ?_
        · exact Nat.le_trans ((by decide : ∀ c : Fin 8, (lowW c.val).length ≤ 3) ⟨_, hc8⟩) (by decide)
        · refine ⟨⟨trivial, rfl, ?_⟩, by kt_at_in⟩
          rw [List.take_succ_eq_append_getElem hn, List.map_append]; rfl
  · rintro it m σ' ⟨hm, rfl⟩
    refine WX.le hm ?_
    repeat kt_at_item
    exact hQ D
/- F14 -/
noncomputable def whoF (O : List Int) (row : List Int) : List Nat := row.map fun place => cntLe O place - 1
noncomputable def partX (pl en O : List Int) (R : List (List Int)) (x : Nat) : Int :=
  min (nearF pl en x (whoF O (R.getD 0 [])) (cntLe (R.getD 0 []) (pl.getD x 0))) (min (nearF pl en x (whoF O (R.getD 1 [])) (cntLe (R.getD 1 []) (pl.getD x 0))) (nearF pl en x (whoF O (R.getD 2 [])) (cntLe (R.getD 2 []) (pl.getD x 0))))
noncomputable def foundAt (f : Nat → Int) (N : List (List Nat)) (x : Nat) : Option (List Nat × List Nat) := if 0 ≤ f x then some (tagOf (f x).toNat x, N.getD x []) else none
theorem tag_plain {part x : Nat} (h : part < 9) : Plain (tagOf part x) := by
  intro c hc
  unfold tagOf at hc
  split at hc <;> (rw [List.mem_singleton] at hc; omega)
theorem found_ck {p : P0} {k : Nat} {σ : AH} {a b c d e : Addr} {N : List (List Nat)} {rs : List Addr} {R : List (List Int)} {O pl en : List Int} {Q : Value → AH → Prop}
    (ha : Rd (gh p) σ a (.list (N.map sv))) (hb : Rd (gh p) σ b (.list (rs.map .ref))) (hc : Rd (gh p) σ c (.list (iv O))) (hd : Rd (gh p) σ d (.list (iv pl))) (he' : Rd (gh p) σ e (.list (iv en)))
    (hR : ∀ j, j < 3 → Rd (gh p) σ (rs.getD j 0) (.list (iv (R.getD j [])))) (lr : rs.length = 3) (lR : R.length = 3)
    (lN : N.length = 9) (lO : O.length ≤ 9) (sO : O.Pairwise (· ≤ ·)) (lp : pl.length = 9) (le : en.length = 9) (hN : ∀ n ∈ N, Plain n ∧ n.length ≤ 1000)
    (sR : ∀ r ∈ R, r.Pairwise (· ≤ ·) ∧ r.length ≤ 9 ∧ ∀ y ∈ r, 1 ≤ cntLe O y) (h0 : ∀ i, i < 9 → ¬ en.getD 0 0 < pl.getD i 0) (hx : ∀ x, x < 9 → partX pl en O R x < 9)
    (hQ : ∀ x dx dd ts σ', σ.Sublist σ' → ts.map (·.2) = (List.range' 0 9).filterMap (foundAt (partX pl en O R) N) → Q (.ref x) (HL x dx dd ts ++ σ')) : CK (gh p) (k + 4) (.ref 317) [.ref a, .ref b, .ref c, .ref d, .ref e] [] Q σ := by
  refine CK.enter (wr := ["rows", "opens", "places", "ends", "whose", "x"]) (by rfl) (by kernel_rfl) (by rfl) (by rfl) (by rfl) (by rfl) ?_
  intro args kw h hk
  obtain ⟨a1, a2, a3, a4, a5, rfl, h1, h2, h3, h4, h5⟩ := args5 h
  cases List.map_eq_nil_iff.mp hk
  refine C.binds (binds := [("names", a1), ("rows", a2), ("opens", a3), ("places", a4), ("ends", a5)]) (by rfl) ⟨by rfl, ?_⟩
  dsimp only [erB, List.map]
  rw [h1, h2, h3, h4, h5]
  intro env he
  repeat kt_at_item
  have hr3 : ∀ {j : Nat}, j < 3 → rs[j]? = some (rs.getD j 0) := fun {j} hj => by
    rw [List.getD_eq_getElem?_getD, List.getElem?_eq_getElem (by omega)]; rfl
  have hRm : ∀ {j : Nat}, j < 3 → R.getD j [] ∈ R := fun {j} hj => by
    rw [List.getD_eq_getElem?_getD, List.getElem?_eq_getElem (by omega)]; exact List.getElem_mem _
  refine W.comp he (rs.map .ref) (depL (gh p) (rs.map .ref)) (fun xv i ys σ' => xv = .ref b ∧ σ.Sublist σ' ∧ ∃ ws : List Addr, ys = ws.map .ref ∧ ws.length = i ∧ ∀ j, j < i → (ws.getD j 0, AO.list (nvs (whoF O (R.getD j [])))) ∈ σ') [("opens", .ref c)] (by rfl) (by rfl) (by simp; omega) (by kt_at_in) ?_ ?_ ?_ (by intro _; rfl)
  · repeat kt_at_item
    refine ⟨It.listD hb, ⟨_, List.Sublist.refl _, rfl, List.Sublist.refl _, [], rfl, rfl, by intro j hj; omega⟩, by kt_at_in, ?_⟩
    rintro ys σ2 W0 ⟨_, up2, ws, rfl, lw, hws⟩
    rw [List.length_map, lr] at lw hws
    have hw3 : ∀ {j : Nat}, j < 3 → ws[j]? = some (ws.getD j 0) := fun {j} hj => by
      rw [List.getD_eq_getElem?_getD, List.getElem?_eq_getElem (by omega)]; rfl
    refine GenE ((W0, AO.list (ws.map Value.ref)) :: σ2) ?_
    intro σ3 hσ3
    have up3 : σ.Sublist σ3 := by rw [← hσ3]; exact up2.trans (List.sublist_cons_self _ _)
    have hW : Rd (gh p) σ3 W0 (.list (ws.map .ref)) := by rw [← hσ3]; exact .inl List.mem_cons_self
    have hws3 : ∀ j, j < 3 → Rd (gh p) σ3 (ws.getD j 0) (.list (nvs (whoF O (R.getD j [])))) := fun j hj => by rw [← hσ3]; exact .inl (List.mem_cons_of_mem _ (hws j hj))
    clear hσ3 hws
    repeat kt_at_item
    refine make_ck fun x dx dd => ?_
    repeat kt_at_item
    have upH : ∀ ts, σ3.Sublist (HL x dx dd ts ++ σ3) := fun ts => List.sublist_append_right _ _
    refine WX.for (nvs (List.range' 0 9)) (fun _ _ => True) (fun _ i m σ' => Le [("found", .ref x), ("whose", .ref W0), ("names", .ref a), ("rows", .ref b), ("opens", .ref c), ("places", .ref d), ("ends", .ref e)] m ∧ ∃ ts, σ' = HL x dx dd ts ++ σ3 ∧ ts.map (·.2) = ((List.range' 0 9).take i).filterMap (foundAt (partX pl en O R) N)) (stCell (kind_of he (by rfl)) (by decide)) ?_ (fun _ _ _ _ _ => trivial) ?_ ?_ (by intro _; rfl)
    · repeat kt_at_item
      refine CK.range1 fun r o ho => ?_
      exact ⟨It.rangeN (a := 0) (b := 9) (by decide) (by decide) List.mem_cons_self ho (fun _ _ => trivial), _, List.sublist_cons_self _ _, by kt_at_in, [], rfl, rfl⟩
    · rintro it i m σ' v hv ⟨hm, ts, rfl, hts⟩
      obtain ⟨hi, hv'⟩ := nvs_at hv
      have hi9 : i < 9 := by simpa using hi
      have exi : (List.range' 0 9)[i]'hi = i := by rw [range'_get hi, Nat.zero_add]
      rw [exi] at hv'
      subst hv'
      have hxi := hx i hi9
      generalize hnj : (fun j => nearF pl en i (whoF O (R.getD j [])) (cntLe (R.getD j []) (pl.getD i 0))) = nj
      have epx : partX pl en O R i = min (nj 0) (min (nj 1) (nj 2)) := by rw [← hnj]; rfl
      have hlt : ts.length ≤ 1000 := by
        have := congrArg List.length hts
        rw [List.length_map] at this
        have h2 := List.length_filterMap_le (foundAt (partX pl en O R) N) ((List.range' 0 9).take i)
        rw [List.length_take] at h2
        omega
      have hNi : N.getD i [] ∈ N := by
        rw [List.getD_eq_getElem?_getD, List.getElem?_eq_getElem (by omega)]; exact List.getElem_mem _
      refine WX.le (M := [("x", .int i 0), ("found", .ref x), ("whose", .ref W0), ("names", .ref a), ("rows", .ref b), ("opens", .ref c), ("places", .ref d), ("ends", .ref e)]) (Le.cons lookup_cons_self (Le.skip hm (by rfl))) ?_
      repeat kt_at_item
      refine W.comp he (nvs (List.range' 0 3)) (fun _ _ => True) (fun _ n ys σ' => (HL x dx dd ts ++ σ3).Sublist σ' ∧ ys = iv ((List.range' 0 n).map nj)) [("x", .int i 0), ("rows", .ref b), ("whose", .ref W0), ("places", .ref d), ("ends", .ref e)] (by rfl) (by rfl) (by simp [nvs]) (by kt_at_in) ?_ (fun _ _ _ _ _ => trivial) ?_ (by intro _; rfl)
      · repeat kt_at_item
        refine CK.range1 fun r o ho => ?_
        refine ⟨It.rangeN (a := 0) (b := 3) (by decide) (by decide) List.mem_cons_self ho (fun _ _ => trivial), ⟨_, List.sublist_cons_self _ _, List.Sublist.refl _, rfl⟩, by kt_at_in, ?_⟩
        rintro ys σ' D ⟨hs', rfl⟩
        have e3 : (List.range' 0 (nvs (List.range' 0 3)).length).map nj = [nj 0, nj 1, nj 2] := rfl
        rw [e3]
        repeat kt_at_item
        refine CK.minL (xs := [nj 0, nj 1, nj 2]) (.inl List.mem_cons_self) (by simp) fun M hM1 hM2 => ?_
        have eM : M = partX pl en O R i := by
          rw [epx]
          simp only [List.mem_cons, List.not_mem_nil, or_false] at hM1 hM2
          have m0 := hM2 (nj 0) (.inl rfl)
          have m1 := hM2 (nj 1) (.inr (.inl rfl))
          have m2 := hM2 (nj 2) (.inr (.inr rfl))
          omega
        rw [eM]
        refine WX.drop ((hs'.trans (List.sublist_cons_self _ _))) ?_
        generalize hpx : partX pl en O R i = P at hxi ⊢
        repeat kt_at_item
        have etake : ((List.range' 0 9).take (i + 1)).filterMap (foundAt (partX pl en O R) N) = ts.map (·.2) ++ (match foundAt (partX pl en O R) N i with | some q => [q] | none => []) := by
          rw [List.take_succ_eq_append_getElem hi, List.filterMap_append, hts, exi]
          cases hq : foundAt (partX pl en O R) N i <;> simp [List.filterMap_cons, hq]
        split
        · rename_i hge
          have hge' : 0 ≤ P := by simpa using hge
          obtain ⟨q, rfl⟩ := Int.eq_ofNat_of_zero_le hge'
          repeat kt_at_item
          refine W.selfFn (f := 206) (x := x) (dx := dx) (d := dd) (by kernel_rfl) (by kernel_rfl) (by rfl) (by kernel_rfl) ?_ (by rfl) (by rfl) (by rfl) (by rfl) (by rfl)
          repeat kt_at_item
          refine ⟨rfl, HL.ins, ?_⟩
          repeat kt_at_item
          refine tag_ck (by omega) ?_
          repeat kt_at_item
          refine SB.list (ha.up (up3.trans (upH _))) (by first | exact Int.natCast_nonneg _ | omega) (by first | exact lt63 (by with_reducible assumption) | omega) (by rw [Int.toNat_natCast]; exact svs_getD (by omega)) ?_
          repeat kt_at_item
          refine add_ck (tag_plain (by omega)) (hN _ hNi).1 (by unfold tagOf; split <;> simp) (hN _ hNi).2 hlt fun t => ?_
          repeat kt_at_item
          refine ⟨by kt_at_in, _, rfl, ?_⟩
          rw [etake, List.map_append]
          simp [foundAt, hpx]
        · rename_i hge
          have hge' : ¬ 0 ≤ P := by simpa using hge
          repeat kt_at_item
          refine ⟨by kt_at_in, ts, rfl, ?_⟩
          rw [etake]
          simp [foundAt, hpx, hge']
      · rintro xv cenv hce n v ys σ' hv ⟨hs', rfl⟩
        obtain ⟨hn, hv'⟩ := nvs_at hv
        rw [range'_get hn, Nat.zero_add] at hv'
        subst hv'
        have hn3 : n < 3 := by simpa using hn
        obtain ⟨s1, s2, s3⟩ := sR _ (hRm hn3)
        have up : σ3.Sublist σ' := (upH _).trans hs'
        refine WG.local (kind_of hce (by rfl)) ?_
        simp only [WTs, if_true]
        repeat kt_at_item
        refine SB.list (hb.up (up3.trans up)) (by omega) (by omega) (by rw [Int.toNat_natCast, List.getElem?_map, hr3 hn3]; rfl) ?_
        repeat kt_at_item
        refine SB.list (hW.up up) (by omega) (by omega) (by rw [Int.toNat_natCast, List.getElem?_map, hw3 hn3]; rfl) ?_
        repeat kt_at_item
        have e9 : ∀ y ∈ whoF O (R.getD n []), y < 9 := fun y hy => by
          obtain ⟨z, hz, rfl⟩ := List.mem_map.mp hy
          have := s3 z hz
          have := cntLe_le O z
          omega
        refine nearest_ck ((hR n hn3).up (up3.trans up)) ((hws3 n hn3).up up) (hd.up (up3.trans up)) (he'.up (up3.trans up)) lp le (by omega) (by rw [whoF, List.length_map]; omega) s1 hi9 e9 h0 fun σ'' hs'' => ?_
        repeat kt_at_item
        refine ⟨⟨hs'.trans hs'', ?_⟩, by kt_at_in⟩
        rw [List.range'_concat, List.map_append, ← hnj]
        simp [iv]
    · rintro it m σ' ⟨hm, ts, rfl, hts⟩
      refine WX.le hm ?_
      repeat kt_at_item
      refine hQ x dx dd ts σ3 up3 ?_
      rw [hts, List.take_of_length_le (by simp [nvs])]
  · rintro xv i ys σ' ⟨rfl, hs, _⟩
    exact ⟨b, rfl, hb.up hs⟩
  · rintro xv cenv hce i v ys σ' hv ⟨rfl, up, ws, rfl, lw, hws⟩
    have hi : i < 3 := by have := (List.getElem?_eq_some_iff.mp hv).1; simpa [lr] using this
    have ev : v = .ref (rs.getD i 0) := by
      rw [List.getElem?_map, hr3 hi] at hv
      exact (Option.some.inj hv).symm
    subst ev
    obtain ⟨hs1, hs2, hs3⟩ := sR _ (hRm hi)
    generalize hrow : R.getD i [] = row at hs1 hs2 hs3
    have hri : Rd (gh p) σ' (rs.getD i 0) (.list (iv row)) := by rw [← hrow]; exact (hR i hi).up up
    refine WG.local (kind_of hce (by rfl)) ?_
    simp only [WTs, if_true]
    refine W.comp hce (iv row) (depL (gh p) (iv row)) (fun xv n ys σ'' => xv = .ref (rs.getD i 0) ∧ σ'' = σ' ∧ ys = nvs (whoF O (row.take n))) [("opens", .ref c)] (by rfl) (by rfl) (by rw [iv_len]; omega) (by kt_at_in) ?_ ?_ ?_ (by intro _; rfl)
    · repeat kt_at_item
      refine ⟨It.listD hri, ⟨_, List.Sublist.refl _, rfl, rfl, rfl⟩, by kt_at_in, ?_⟩
      rintro ys σ'' D ⟨_, rfl, rfl⟩
      rw [iv_len, List.take_of_length_le (Nat.le_refl _)]
      refine ⟨⟨trivial, up.trans (List.sublist_cons_self _ _), ws ++ [D], by simp, by simp [lw], ?_⟩, by kt_at_in⟩
      intro j hj
      rcases Nat.lt_or_eq_of_le (Nat.lt_succ_iff.mp hj) with q | q
      · have : (ws ++ [D]).getD j 0 = ws.getD j 0 := by
          rw [List.getD_eq_getElem?_getD, List.getElem?_append_left (by omega), ← List.getD_eq_getElem?_getD]
        rw [this]; exact List.mem_cons_of_mem _ (hws j q)
      · have : (ws ++ [D]).getD j 0 = D := by
          rw [List.getD_eq_getElem?_getD, List.getElem?_append_right (by omega), q, lw, Nat.sub_self]; rfl
        rw [this, q, hrow]; exact List.mem_cons_self
    · rintro xv n ys σ'' ⟨rfl, rfl, _⟩
      exact ⟨_, rfl, hri⟩
    · rintro xv cenv2 hce2 n v ys σ'' hv ⟨rfl, rfl, rfl⟩
      have hn : n < row.length := by have := (List.getElem?_eq_some_iff.mp hv).1; rwa [iv_len] at this
      rw [iv_get hn] at hv
      cases hv
      refine WG.local (kind_of hce2 (by rfl)) ?_
      simp only [WTs, if_true]
      repeat kt_at_item
      refine bisect_right_two (hc.up up) (by omega) sO ?_
      repeat kt_at_item
      refine ⟨⟨trivial, rfl, ?_⟩, by kt_at_in⟩
      have h1 := hs3 _ (List.getElem_mem hn)
      have e1 : (cntLe O row[n] : Int) - 1 = ((cntLe O row[n] - 1 : Nat) : Int) := by omega
      rw [e1, List.take_succ_eq_append_getElem hn]
      simp only [whoF, nvs, List.map_append]
      rfl
/- F15 -/
theorem fmod_nat (a b : Nat) : (a : Int).fmod (b : Int) = ((a % b : Nat) : Int) := by
  rw [Int.fmod_eq_emod_of_nonneg _ (Int.natCast_nonneg b)]; rfl
theorem fdiv_nat (a b : Nat) : (a : Int).fdiv (b : Int) = ((a / b : Nat) : Int) := by
  rw [Int.fdiv_eq_ediv_of_nonneg _ (Int.natCast_nonneg b)]; rfl
/-- an If whose ways meet again -/
theorem WX.iteJ {g : Gh} {k : Nat} {env : Env} {wr : List Str} {m : FM} {σ : AH} {t : Expr} {b o : List Stmt} {pos : Pos} {rest : List Stmt} {Q : Flow → FM → AH → Prop} (J : FM → AH → Prop)
    (h : WT g k env wr t (fun c m σ => if c then WX g k env wr b (fun f m σ => f = .next ∧ J m σ) m σ else WX g k env wr o (fun f m σ => f = .next ∧ J m σ) m σ) m σ)
    (hJ : ∀ m σ, J m σ → WX g k env wr rest Q m σ) : WX g k env wr (.If t b o pos :: rest) Q m σ := by
  refine WX.ite (W.mono (α := Bool) h ?_)
  intro c m σ hc
  cases c
  · have hc' : WX g k env wr o (fun f m σ => f = .next ∧ J m σ) m σ := hc
    exact WX.mono hc' fun f m σ ⟨e, hj⟩ => by subst e; exact hJ m σ hj
  · have hc' : WX g k env wr b (fun f m σ => f = .next ∧ J m σ) m σ := hc
    exact WX.mono hc' fun f m σ ⟨e, hj⟩ => by subst e; exact hJ m σ hj
theorem WV.mid {g : Gh} {k : Nat} {env : Env} {wr : List Str} {m : FM} {σ : AH} {t : Sem Value} {Q : Value → FM → AH → Prop} (J : Value → FM → AH → Prop) (h : WV g k env wr t J m σ) (hJ : ∀ v m σ, J v m σ → Q v m σ) : WV g k env wr t Q m σ :=
  W.mono (α := Value) h fun v m σ => hJ (er v) m σ
theorem WA.le {g : Gh} {k : Nat} {env : Env} {wr : List Str} {m : FM} {σ : AH} {pos : Pos} {es : List Expr} {M : FM} {Q : List Value → FM → AH → Prop} (hm : Le M m) (h : WA g k env wr pos es Q M σ) : WA g k env wr pos es Q m σ := W.le h hm
theorem Sb.pull {a l : AH} (i : Nat) {x : Addr × AO} (h : l[i]? = some x) (r : Sb a (l.eraseIdx i)) : Sb (x :: a) l := by
  refine (r.cons x).trans (Sb.perm ?_)
  clear r
  induction l generalizing i with
  | nil => simp at h
  | cons y l ih =>
    cases i with
    | zero => cases h; exact List.Perm.refl _
    | succ i => exact ((ih i h).cons y).trans (List.Perm.swap _ _ _)
structure Cells (C : List Int) : Prop where
  len : C.length = 9
  ok : ∀ c ∈ C, 0 ≤ c ∧ c < 10000
theorem Cells.start : Cells [1000, 2010, 100, 3021, 1122, 2000, 10, 3113, 2020] := ⟨rfl, by decide⟩
theorem Cells.set {C : List Int} (h : Cells C) (j : Nat) (x : Int) : Cells (C.set j (x.fmod 10000)) := by
  refine ⟨by rw [List.length_set]; exact h.len, fun c hc => ?_⟩
  rcases List.mem_or_eq_of_mem_set hc with q | q
  · exact h.ok c q
  · subst q
    rw [Int.fmod_eq_emod_of_nonneg _ (by decide)]
    omega
theorem Cells.get {C : List Int} (h : Cells C) {i : Nat} (hi : i < 9) : ∃ n : Nat, C.getD i 0 = n := by
  have hm : C.getD i 0 ∈ C := by
    rw [List.getD_eq_getElem?_getD, List.getElem?_eq_getElem (by rw [h.len]; exact hi)]; exact List.getElem_mem _
  exact Int.eq_ofNat_of_zero_le (h.ok _ hm).1
/-- the lists that a document is drawn into -/
noncomputable def DD (dl dw dy : Addr) (par : List Int) (Wc wy : List Nat) : AH := [(dl, .list (iv par)), (dw, .list (Wc.map fun c => sv (wordOf c))), (dy, .list (nvs wy))]
theorem word_up : ∀ q, q < 4 → Txt.upper (ss (wordOf q)) = ss (wordOf (q + 4)) := fun c hc => by
  obtain ⟨h, e⟩ := (by decide : ∀ c : Fin 4, (∀ x ∈ wordOf c.val, x < 128) ∧ (wordOf c.val).map upC = wordOf (c.val + 4)) ⟨c, hc⟩
  rw [upper_is h]
  exact congrArg ss e
theorem word_short : ∀ c, c < 8 → (wordOf c).length ≤ 1000000 := fun c hc =>
  Nat.le_trans ((by decide : ∀ c : Fin 8, (wordOf c.val).length ≤ 3) ⟨c, hc⟩) (by decide)
theorem word4 : ∀ q, q < 4 → [sv [97, 38], sv [98, 60], sv [99, 38, 60], sv [97]][q]? = some (sv (wordOf q)) := fun q hq => by
  have h := (by decide : ∀ c : Fin 4, [[97, 38], [98, 60], [99, 38, 60], [97]][c.val]? = some (wordOf c.val)) ⟨q, hq⟩
  show (([[97, 38], [98, 60], [99, 38, 60], [97]] : List (List Nat)).map sv)[q]? = _
  rw [List.getElem?_map, h]; rfl
theorem drawn_ck {p : P0} {k : Nat} {σ : AH} {a : Addr} {s : List Int} {Q : Value → AH → Prop} (hr : Rd (gh p) σ a (.list (iv s))) (hl : s.length ≤ 63)
    (hQ : ∀ T dl dw dy par Wc wy σ', Pre par → Wc.length = 9 → (∀ c ∈ Wc, c < 8) → wy.length = 9 → (∀ w ∈ wy, w < 4) → σ.Sublist σ' → Q (.ref T) ((T, .tup [.ref dl, .ref dw, .ref dy]) :: (DD dl dw dy par Wc wy ++ σ'))) : CK (gh p) (k + 1) (.ref 255) [.ref a] [] Q σ := by
  refine CK.enter (wr := []) (by rfl) (by kernel_rfl) (by rfl) (by rfl) (by rfl) (by rfl) ?_
  intro args kw h hk
  obtain ⟨a1, rfl, h1⟩ := args1 h
  cases List.map_eq_nil_iff.mp hk
  refine C.binds (binds := [("script", a1)]) (by rfl) ⟨by rfl, ?_⟩
  dsimp only [erB, List.map]
  rw [h1]
  intro env he
  repeat kt_at_item
  refine W.list ?_
  repeat kt_at_item
  refine ⟨by simp, fun D => ?_⟩
  have e0 : [Value.int 1000 0, .int 2010 0, .int 100 0, .int 3021 0, .int 1122 0, .int 2000 0, .int 10 0, .int 3113 0, .int 2020 0] = iv [1000, 2010, 100, 3021, 1122, 2000, 10, 3113, 2020] := rfl
  rw [e0]
  have hs63 : s.length ≤ 1000 := by omega
  refine WX.for (nvs (List.range' 0 s.length)) (fun _ _ => True) (fun _ i m σ' => Le [("cells", .ref D), ("script", .ref a)] m ∧ ∃ C, Cells C ∧ σ' = (D, .list (iv C)) :: σ) (stLocal (kind_of he (by rfl))) ?_ (fun _ _ _ _ _ => trivial) ?_ ?_ (by intro _; rfl)
  · repeat kt_at_item
    refine CK.len (hr.up (List.sublist_cons_self _ _)) (by rw [iv_len]; omega) ?_
    rw [iv_len]
    repeat kt_at_item
    refine CK.range1 fun R o ho => ?_
    exact ⟨It.rangeN (a := 0) (b := s.length) (by decide) hs63 List.mem_cons_self ho (fun _ _ => trivial), _, List.sublist_cons_self _ _, by kt_at_in, _, Cells.start, rfl⟩
  · rintro it i m σ' v hv ⟨hm, C, hC, rfl⟩
    obtain ⟨hi, hv'⟩ := nvs_at hv
    rw [range'_get hi, Nat.zero_add] at hv'
    subst hv'
    have his : i < s.length := by simpa using hi
    have em : ((i : Int) + 4).fmod 9 = (((i + 4) % 9 : Nat) : Int) := fmod_nat (i + 4) 9
    have hlt : (i + 4) % 9 < 9 := Nat.mod_lt _ (by decide)
    refine WX.le (M := [("k", .int i 0), ("cells", .ref D), ("script", .ref a)]) (Le.cons lookup_cons_self (Le.skip hm (by rfl))) ?_
    refine WX.setItem ?_ (by rfl)
    repeat kt_at_item
    rw [em]
    refine SB.list (.inl List.mem_cons_self) (by first | exact Int.natCast_nonneg _ | omega) (by first | exact lt63 (by with_reducible assumption) | omega) (by rw [Int.toNat_natCast]; exact iv_getD (by rw [hC.len]; exact hlt)) ?_
    repeat kt_at_item
    refine SB.list (hr.up (List.sublist_cons_self _ _)) (by first | exact Int.natCast_nonneg _ | omega) (by first | exact lt63 (by with_reducible assumption) | omega) (by rw [Int.toNat_natCast]; exact iv_getD his) ?_
    repeat kt_at_item
    rw [em]
    refine ST.list (i := 0) (by rfl) (by omega) (by rw [iv_len, hC.len]; exact hlt) ?_
    repeat kt_at_item
    refine ⟨by kt_at_in, _, hC.set ((i + 4) % 9) (C.getD ((i + 4) % 9) 0 + s.getD i 0), ?_⟩
    show (D, _) :: σ = _
    simp [iv, List.map_set]
  · rintro it m σ' ⟨hm, C, hC, rfl⟩
    refine WX.le hm ?_
    repeat kt_at_item
    refine W.list (WA.nil ⟨by simp, fun dl => ?_⟩)
    repeat kt_at_item
    refine W.list (WA.nil ⟨by simp, fun dw => ?_⟩)
    repeat kt_at_item
    refine W.list (WA.nil ⟨by simp, fun dy => ?_⟩)
    repeat kt_at_item
    refine W.list (WA.nil ⟨by simp, fun dn0 => ?_⟩)
    refine WX.for (nvs (List.range' 0 9)) (fun _ _ => True) (fun _ i m σ' => ∃ dn par Wc wy down, DownK par i down ∧ Wc.length = i ∧ (∀ c ∈ Wc, c < 8) ∧ wy.length = i ∧ (∀ w ∈ wy, w < 4) ∧ down.length ≤ i ∧
      Le [("lefts", .ref dl), ("words", .ref dw), ("ways", .ref dy), ("down", .ref dn), ("cells", .ref D)] m ∧ Sb (DD dl dw dy par Wc wy ++ ((dn, .list (nvs down)) :: (D, .list (iv C)) :: σ)) σ') (stLocal (kind_of he (by rfl))) ?_ (fun _ _ _ _ _ => trivial) ?_ ?_ (by intro _; rfl)
    · repeat kt_at_item
      refine CK.range1 fun R o ho => ?_
      refine ⟨It.rangeN (a := 0) (b := 9) (by decide) (by decide) List.mem_cons_self ho (fun _ _ => trivial), _, List.sublist_cons_self _ _, dn0, [], [], [], [], DownK.nil, rfl, by simp, rfl, by simp, by simp, by kt_at_in, ?_⟩
      exact Sb.pull 3 (by rfl) (Sb.pull 2 (by rfl) (Sb.pull 1 (by rfl) (Sb.pull 0 (by rfl) (Sb.refl _))))
    · rintro it i m σ' v hv ⟨dn, par, Wc, wy, down, hdk, lW, hW, lw, hw, ld, hm, hsb⟩
      obtain ⟨hi, hv'⟩ := nvs_at hv
      rw [range'_get hi, Nat.zero_add] at hv'
      subst hv'
      have hi9 : i < 9 := by simpa using hi
      obtain ⟨c, hc⟩ := hC.get hi9
      refine WX.sb hsb ?_
      refine WX.le (M := [("k", .int i 0), ("lefts", .ref dl), ("words", .ref dw), ("ways", .ref dy), ("down", .ref dn), ("cells", .ref D)]) (Le.cons lookup_cons_self (Le.skip hm (by rfl))) ?_
      have hcells : ∀ {σ'' : AH}, (D, AO.list (iv C)) ∈ σ'' → Rd (gh p) σ'' D (.list (iv C)) := fun h => .inl h
      have hgc : (iv C)[((i : Int)).toNat]? = some (.int c 0) := by
        rw [Int.toNat_natCast, ← hc]; exact iv_getD (by rw [hC.len]; exact hi9)
      refine WX.iteJ (fun m σ' => ∃ dn' t, (0 < i → 0 < t) ∧ Le [("k", .int i 0), ("lefts", .ref dl), ("words", .ref dw), ("ways", .ref dy), ("down", .ref dn'), ("cells", .ref D)] m ∧ Sb (DD dl dw dy par Wc wy ++ ((dn', .list (nvs (down.take t))) :: (D, .list (iv C)) :: σ)) σ') ?_ ?_
      · repeat kt_at_item
        by_cases hi0 : (i : Int) > 0
        · refine iteY hi0 ?_
          have hdn : 0 < down.length := List.length_pos_iff.mpr (hdk.ne (by omega))
          repeat kt_at_item
          refine W.listSlice ?_ (by intro _ _; rfl)
          repeat kt_at_item
          have hrd : Rd (gh p) (DD dl dw dy par Wc wy ++ ((dn, .list (nvs down)) :: (D, .list (iv C)) :: σ)) dn (.list (nvs down)) := .inl (by simp [DD])
          refine CK.len hrd (by simp [nvs]; omega) ?_
          repeat kt_at_item
          refine SB.list (hcells (by simp [DD])) (by first | exact Int.natCast_nonneg _ | omega) (by first | exact lt63 (by with_reducible assumption) | omega) hgc ?_
          repeat kt_at_item
          refine CK.len hrd (by simp [nvs]; omega) ?_
          have ell : (nvs down).length = down.length := by simp [nvs]
          rw [ell]
          have e1 : (c : Int).fmod 10 = ((c % 10 : Nat) : Int) := fmod_nat c 10
          refine BO.modInt ?_ (by omega)
          rw [e1, fmod_nat]
          repeat kt_at_item
          have hml := Nat.mod_lt (c % 10) hdn
          have e2 : (down.length : Int) - ((c % 10 % down.length : Nat) : Int) = ((down.length - c % 10 % down.length : Nat) : Int) := by omega
          rw [e2]
          refine ⟨dn, nvs down, none, some _, rfl, hrd, by omega, rfl, rfl, fun S => ?_⟩
          repeat kt_at_item
          refine ⟨rfl, S, down.length - c % 10 % down.length, fun _ => by omega, by kt_at_in, ?_⟩
          have ep : pickV (nvs down) none (some (down.length - c % 10 % down.length)) = nvs (down.take (down.length - c % 10 % down.length)) := by
            simp [pickV, nvs, List.map_take]
          rw [ep]
          exact Sb.pull 1 (by rfl) (Sb.pull 1 (by rfl) (Sb.pull 1 (by rfl) (Sb.pull 0 (by rfl) (Sb.skip _ (Sb.refl _)))))
        · refine iteN hi0 ?_
          repeat kt_at_item
          refine ⟨rfl, dn, 0, fun h => absurd h (by omega), by kt_at_in, ?_⟩
          have ed : down = [] := List.eq_nil_iff_forall_not_mem.mpr fun d hd => by have := hdk.low d hd; omega
          subst ed
          exact Sb.refl _
      · rintro m σ' ⟨dn', t, ht, hm, hsb⟩
        refine WX.sb hsb (WX.le hm ?_)
        have hstep := hdk.step ht
        have ldt : (down.take t).length ≤ i := by rw [List.length_take]; omega
        generalize down.take t = dwn at hstep ldt
        repeat kt_at_item
        refine ⟨TyIs.list (.inl List.mem_cons_self), ?_⟩
        repeat kt_at_item
        refine W.list ?_
        repeat kt_at_item
        refine ⟨by simp, fun D1 => ?_⟩
        repeat kt_at_item
        refine BO.addList (ys := nvs dwn) (.inl List.mem_cons_self) (.inl (by simp [DD])) (by simp [nvs]; omega) fun D2 => ?_
        repeat kt_at_item
        have elast : ([Value.int (-1) 0] ++ nvs dwn).getLast? = some (.int (lastI dwn) 0) := by
          rw [List.getLast?_append]
          unfold lastI nvs
          rw [List.getLast?_map]
          cases dwn.getLast? <;> rfl
        refine SB.listNeg (n := 0) (.inl List.mem_cons_self) elast (by simp [nvs]; omega) ?_
        repeat kt_at_item
        refine CK.append (i := 2) (by rfl) (by simp [iv, hdk.len]; omega) ?_
        refine WX.sb (σ' := DD dl dw dy (par ++ [lastI dwn]) Wc wy ++ ((dn', .list (nvs dwn)) :: (D, .list (iv C)) :: σ)) ?_ ?_
        · have eiv : iv (par ++ [lastI dwn]) = iv par ++ [.int (lastI dwn) 0] := by simp [iv]
          unfold DD
          rw [eiv]
          exact Sb.skip _ (Sb.skip _ (Sb.refl _))
        repeat kt_at_item
        refine W.list ?_
        repeat kt_at_item
        refine ⟨by simp, fun D3 => ?_⟩
        repeat kt_at_item
        refine BO.addList (xs := nvs dwn) (ys := [.int i 0]) (.inl (by simp [DD])) (.inl List.mem_cons_self) (by simp [nvs]; omega) fun D4 => ?_
        refine WX.sb (σ' := DD dl dw dy (par ++ [lastI dwn]) Wc wy ++ ((D4, .list (nvs (dwn ++ [i]))) :: (D, .list (iv C)) :: σ)) ?_ ?_
        · have eiv : nvs (dwn ++ [i]) = nvs dwn ++ [.int i 0] := by simp [nvs]
          rw [eiv]
          exact Sb.pull 2 (by rfl) (Sb.pull 2 (by rfl) (Sb.pull 2 (by rfl) (Sb.pull 0 (by rfl) (Sb.skip _ (Sb.skip _ (Sb.refl _))))))
        repeat kt_at_item
        refine W.list ?_
        refine WA.cons (W.cSv (l := [97, 38]) (by rfl) ?_) (by rfl)
        refine WA.cons (W.cSv (l := [98, 60]) (by rfl) ?_) (by rfl)
        refine WA.cons (W.cSv (l := [99, 38, 60]) (by rfl) ?_) (by rfl)
        refine WA.cons (W.cSv (l := [97]) (by rfl) ?_) (by rfl)
        repeat kt_at_item
        refine ⟨by simp, fun D5 => ?_⟩
        repeat kt_at_item
        refine SB.list (hcells (by simp [DD])) (by first | exact Int.natCast_nonneg _ | omega) (by first | exact lt63 (by with_reducible assumption) | omega) hgc ?_
        have e1 : (c : Int).fdiv 10 = ((c / 10 : Nat) : Int) := fdiv_nat c 10
        have e2 : ((c / 10 : Nat) : Int).fmod 10 = ((c / 10 % 10 : Nat) : Int) := fmod_nat _ 10
        have e3 : ((c / 10 % 10 : Nat) : Int).fmod 4 = ((c / 10 % 10 % 4 : Nat) : Int) := fmod_nat _ 4
        repeat kt_at_item
        rw [e1]
        repeat kt_at_item
        rw [e2]
        repeat kt_at_item
        rw [e3]
        have hq4 : c / 10 % 10 % 4 < 4 := Nat.mod_lt _ (by decide)
        generalize c / 10 % 10 % 4 = q at hq4
        refine SB.list (v := sv (wordOf q)) (.inl List.mem_cons_self) (by omega) (by omega) ?_ ?_
        · rw [Int.toNat_natCast]; exact word4 q hq4
        refine WX.drop (List.sublist_cons_self _ _) ?_
        repeat kt_at_item
        refine ⟨TyIs.list (vs := Wc.map fun c => sv (wordOf c)) (.inl (by simp [DD])), ?_⟩
        refine WA.cons (WV.mid (fun v m' σ' => ∃ w, w < 8 ∧ v = sv (wordOf w) ∧ Le [("lefts", .ref dl), ("words", .ref dw), ("ways", .ref dy), ("down", .ref D4), ("cells", .ref D), ("k", .int i 0)] m' ∧ σ' = DD dl dw dy (par ++ [lastI dwn]) Wc wy ++ ((D4, .list (nvs (dwn ++ [i]))) :: (D, .list (iv C)) :: σ)) ?_ ?_) (by rfl)
        · repeat kt_at_item
          refine SB.list (hcells (by simp [DD])) (by first | exact Int.natCast_nonneg _ | omega) (by first | exact lt63 (by with_reducible assumption) | omega) hgc ?_
          have f1 : (c : Int).fdiv 100 = ((c / 100 : Nat) : Int) := fdiv_nat c 100
          have f2 : ((c / 100 : Nat) : Int).fmod 2 = ((c / 100 % 2 : Nat) : Int) := fmod_nat _ 2
          repeat kt_at_item
          rw [f1]
          repeat kt_at_item
          rw [f2]
          repeat kt_at_item
          by_cases hz : ((c / 100 % 2 : Nat) : Int) = 0
          · refine ifT (beq_iff_eq.mpr hz) ?_
            repeat kt_at_item
            exact ⟨q, by omega, rfl, by kt_at_in, rfl⟩
          · refine ifF (beq_eq_false_iff_ne.mpr hz) ?_
            repeat kt_at_item
            refine ⟨TyIs.str, ?_⟩
            repeat kt_at_item
            refine CK.upper (word_up q hq4) (word_short _ (by omega)) ?_
            exact ⟨q + 4, by omega, rfl, by kt_at_in, rfl⟩
        · rintro v m σ' ⟨w, hw8, rfl, hm, rfl⟩
          refine WA.le hm ?_
          repeat kt_at_item
          refine CK.append (i := 1) (vs := Wc.map fun c => sv (wordOf c)) (by rfl) (by simp; omega) ?_
          refine WX.sb (σ' := DD dl dw dy (par ++ [lastI dwn]) (Wc ++ [w]) wy ++ ((D4, .list (nvs (dwn ++ [i]))) :: (D, .list (iv C)) :: σ)) ?_ ?_
          · have e : (Wc ++ [w]).map (fun c => sv (wordOf c)) = (Wc.map fun c => sv (wordOf c)) ++ [sv (wordOf w)] := by simp
            unfold DD
            rw [e]
            exact Sb.refl _
          repeat kt_at_item
          refine ⟨TyIs.list (vs := nvs wy) (.inl (by simp [DD])), ?_⟩
          repeat kt_at_item
          refine SB.list (hcells (by simp [DD])) (by first | exact Int.natCast_nonneg _ | omega) (by first | exact lt63 (by with_reducible assumption) | omega) hgc ?_
          have g1 : (c : Int).fdiv 1000 = ((c / 1000 : Nat) : Int) := fdiv_nat c 1000
          have g2 : ((c / 1000 : Nat) : Int).fmod 4 = ((c / 1000 % 4 : Nat) : Int) := fmod_nat _ 4
          repeat kt_at_item
          rw [g1]
          repeat kt_at_item
          rw [g2]
          repeat kt_at_item
          refine CK.append (i := 2) (vs := nvs wy) (by rfl) (by simp [nvs]; omega) ?_
          have hy4 : c / 1000 % 4 < 4 := Nat.mod_lt _ (by decide)
          repeat kt_at_item
          refine ⟨D4, par ++ [lastI dwn], Wc ++ [w], wy ++ [c / 1000 % 4], dwn ++ [i], hstep, by simp [lW], ?_, by simp [lw], ?_, by simp; omega, by kt_at_in, ?_⟩
          · intro x hx
            rcases List.mem_append.mp hx with r | r
            · exact hW x r
            · rw [List.mem_singleton.mp r]; exact hw8
          · intro x hx
            rcases List.mem_append.mp hx with r | r
            · exact hw x r
            · rw [List.mem_singleton.mp r]; exact hy4
          · have e : nvs (wy ++ [c / 1000 % 4]) = nvs wy ++ [.int ((c / 1000 % 4 : Nat) : Int) 0] := by simp [nvs]
            unfold DD
            rw [e]
            exact Sb.refl _
    · rintro it m σ' ⟨dn, par, Wc, wy, down, hdk, lW, hW, lw, hw, ld, hm, hsb⟩
      refine WX.sb hsb (WX.le hm ?_)
      repeat kt_at_item
      refine W.tuple ?_
      repeat kt_at_item
      refine ⟨by simp, fun T => ?_⟩
      exact hQ T dl dw dy par Wc wy _ hdk.pre lW hW lw hw ((List.sublist_cons_self _ _).trans (List.sublist_cons_self _ _))
/- F16 -/
theorem pre_le {a b : List Nat} (h : (a ++ b).length ≤ 51200) : a.length ≤ 51200 := by rw [List.length_append] at h; omega
theorem pre_ap {a b : List Nat} (h : (a ++ b).length ≤ 51200) : a.length + b.length ≤ 1000000 := by rw [List.length_append] at h; omega
theorem page_join (h inn : List Nat) (c : Nat) : h ++ inn ++ [60, 47] ++ [c] ++ [62] = h ++ (inn ++ [60, 47, c, 62]) := by simp
theorem head_low {k w : Nat} (t : List Nat) (h : w < 2) : headOf k w t = [60] ++ [112 + k] ++ [62] ++ t := by unfold headOf; rw [if_pos h]; rfl
theorem head_high {k w : Nat} (t : List Nat) (h : ¬ w < 2) : headOf k w t = [60] ++ [112 + k] ++ [32, 118, 61, 34] ++ t ++ [34, 62] := by unfold headOf; rw [if_neg h]; rfl
theorem head_len (k w : Nat) {t : List Nat} (h : t.length ≤ 180) : (headOf k w t).length ≤ 196 := by
  unfold headOf
  split <;> simp only [List.length_append, List.length_cons, List.length_nil] <;> omega
/-- a function that dresses a word's text -/
noncomputable def Spells (p : P0) (f : Addr) (tx : Nat → Nat → List Nat) : Prop :=
  keepIn (gh p).K (.ref f) = true ∧ ∀ (c w : Nat), c < 8 → w < 4 → (tx c w).length ≤ 180 ∧ ∀ (k : Nat) (σ : AH) (Q : Value → AH → Prop), Q (sv (tx c w)) σ → CK (gh p) (k + 2) (.ref f) [sv (txtOf c), .int w 0] [] Q σ
theorem tag_char {i : Nat} (hi : i < 9) : ([112, 113, 114, 115, 116, 117, 118, 119, 120] : List Nat)[i]? = some (112 + i) :=
  (by decide : ∀ c : Fin 9, ([112, 113, 114, 115, 116, 117, 118, 119, 120] : List Nat)[c.val]? = some (112 + c.val)) ⟨i, hi⟩
noncomputable def hdOf (Wc wy : List Nat) (tx : Nat → Nat → List Nat) (k : Nat) : List Nat := headOf k (wy.getD k 0) (tx (Wc.getD k 0) (wy.getD k 0))
theorem word_len (c : Nat) : (wordOf c).length ≤ 3 := by
  unfold wordOf
  split <;> decide
theorem page_ck {p : P0} {f a b c : Addr} {par : List Int} {Wc wy : List Nat} {tx : Nat → Nat → List Nat} (hs : Spells p f tx) (lp : par.length = 9) (lW : Wc.length = 9) (hW : ∀ c ∈ Wc, c < 8) (lw : wy.length = 9) (hw : ∀ w ∈ wy, w < 4) :
    ∀ (n : Nat) (i : Nat) (k : Nat) (σ : AH) (Q : Value → AH → Prop), Rd (gh p) σ a (.list (iv par)) → Rd (gh p) σ b (.list (Wc.map fun c => sv (wordOf c))) → Rd (gh p) σ c (.list (nvs wy)) → i < 9 → 9 - i ≤ n →
      Q (sv (pageF par (hdOf Wc wy tx) n i)) σ → CK (gh p) (k + 3 + n) (.ref 272) [.int i 0, .ref a, .ref b, .ref c, .ref f] [] Q σ
  | 0, i, k, σ, Q, ha, hb, hc, hi, hn, hQ => absurd hn (by omega)
  | n + 1, i, k, σ, Q, ha, hb, hc, hi, hn, hQ => by
    refine CK.post ?_
    refine CK.enter (wr := ["k", "lefts", "words", "ways", "spell"]) (by rfl) (by kernel_rfl) (by rfl) (by rfl) (by rfl) (by rfl) ?_
    intro args kw h hk
    obtain ⟨a1, a2, a3, a4, a5, rfl, h1, h2, h3, h4, h5⟩ := args5 h
    cases List.map_eq_nil_iff.mp hk
    refine C.binds (binds := [("k", a1), ("lefts", a2), ("words", a3), ("ways", a4), ("spell", a5)]) (by rfl) ⟨by rfl, ?_⟩
    dsimp only [erB, List.map]
    rw [h1, h2, h3, h4, h5]
    intro env he
    have hWi := getD_lt (i := i) hW (by omega)
    have hwi := getD_lt (i := i) hw (by omega)
    obtain ⟨hkp, hsp0⟩ := hs
    obtain ⟨htl, hsp⟩ := hsp0 _ _ hWi hwi
    have hys : ∀ i : Nat, i < 9 → (nvs wy)[i]? = some (.int (wy.getD i 0 : Nat) 0) := fun i hi => by
      rw [nvs, List.getElem?_map, List.getElem?_eq_getElem (by omega), List.getD_eq_getElem?_getD, List.getElem?_eq_getElem (by omega)]; rfl
    repeat kt_at_item
    refine W.cSv (l := [112, 113, 114, 115, 116, 117, 118, 119, 120]) (by rfl) ?_
    repeat kt_at_item
    refine SB.str (tag_char hi) (by decide) ?_
    repeat kt_at_item
    refine SB.list hb (by first | exact Int.natCast_nonneg _ | omega) (by first | exact lt63 (by with_reducible assumption) | omega) (by rw [Int.toNat_natCast]; exact wordv_getD (by omega)) ?_
    repeat kt_at_item
    refine W.cSv (l := [32, 62, 34, 13, 10, 9]) (by rfl) ?_
    have wl := word_len (Wc.getD i 0)
    refine BO.addStr (by simp only [List.length_cons, List.length_nil]; omega) ?_
    repeat kt_at_item
    refine BO.mulStr (n := 2) (by decide) (by decide) (by simp only [List.length_append, List.length_cons, List.length_nil]; omega) (by simp) ?_
    repeat kt_at_item
    refine SB.list hc (by first | exact Int.natCast_nonneg _ | omega) (by first | exact lt63 (by with_reducible assumption) | omega) (by rw [Int.toNat_natCast]; exact hys i hi) ?_
    repeat kt_at_item
    refine CK.more (hsp (k + 1 + n) σ _ ?_) (show k + 1 + n + 2 ≤ k + 3 + n by omega)
    repeat kt_at_item
    refine W.cSv (l := []) (by rfl) ?_
    refine ⟨TyIs.str, ?_⟩
    repeat kt_at_item
    generalize htx : tx (Wc.getD i 0) (wy.getD i 0) = tt at htl
    have hdl : ∀ j, (hdOf Wc wy tx j).length ≤ 196 := fun j => by
      have g1 : ∀ (l : List Nat) (m : Nat), 0 < m → (∀ c ∈ l, c < m) → l.getD j 0 < m := fun l m hm hl => by
        by_cases hj : j < l.length
        · exact getD_lt hl hj
        · rw [List.getD_eq_getElem?_getD, List.getElem?_eq_none (by omega)]; exact hm
      have h2 := (hsp0 _ _ (g1 Wc 8 (by decide) hW) (g1 wy 4 (by decide) hw)).1
      exact head_len _ _ h2
    have htl2 : (headOf i (wy.getD i 0) tt).length ≤ 196 := by rw [← htx]; exact hdl i
    have ehd : hdOf Wc wy tx i = headOf i (wy.getD i 0) tt := by rw [← htx]; rfl
    refine W.comp he (nvs (List.range' (i + 1) (9 - (i + 1)))) (fun _ _ => True) (fun xv m ys σ' => σ.Sublist σ' ∧ ys = (((List.range' (i + 1) (9 - (i + 1))).take m).filter fun j => decide (par.getD j 0 = (i : Int))).map fun j => sv (pageF par (hdOf Wc wy tx) n j)) [("k", .int i 0), ("lefts", .ref a), ("words", .ref b), ("ways", .ref c), ("spell", .ref f)] (by rfl) (by rfl) (by simp [nvs]; omega) (by kt_at_in) ?_ (fun _ _ _ _ _ => trivial) ?_ (by intro _; rfl)
    · repeat kt_at_item
      have e1 : (i : Int) + 1 = ((i + 1 : Nat) : Int) := by omega
      rw [e1]
      refine CK.range2 fun R o ho => ?_
      refine ⟨It.rangeN (a := i + 1) (b := 9) (by omega) (by decide) List.mem_cons_self ho (fun _ _ => trivial), ⟨_, List.sublist_cons_self _ _, List.Sublist.refl _, rfl⟩, by kt_at_in, ?_⟩
      rintro ys σ' D ⟨up, rfl⟩
      have ht : (List.range' (i + 1) (9 - (i + 1))).take (nvs (List.range' (i + 1) (9 - (i + 1)))).length = List.range' (i + 1) (9 - (i + 1)) := List.take_of_length_le (by simp [nvs])
      rw [ht]
      have ek : ((List.range' (i + 1) (9 - (i + 1))).filter fun j => decide (par.getD j 0 = (i : Int))) = kids par i := by
        unfold kids; rw [show 9 - (i + 1) = 8 - i by omega]
      rw [ek]
      have em : ((kids par i).map fun j => sv (pageF par (hdOf Wc wy tx) n j)) = ((kids par i).map (pageF par (hdOf Wc wy tx) n)).map sv := by rw [List.map_map]; rfl
      rw [em]
      repeat kt_at_item
      have hkl : (kids par i).length ≤ 9 := by
        unfold kids
        refine Nat.le_trans (List.length_filter_le _ _) ?_
        rw [List.length_range']; omega
      refine CK.join (n := 51200) (.inl List.mem_cons_self) ?_ ?_ ?_
      · intro q hq
        obtain ⟨j, _, rfl⟩ := List.mem_map.mp hq
        exact page_bound hdl n j
      · simp only [List.length_map, List.length_nil]; omega
      · have hi2 : List.intercalate [] ((kids par i).map (pageF par (hdOf Wc wy tx) n)) = (kids par i).flatMap (pageF par (hdOf Wc wy tx) n) := by
          rw [List.flatMap_def]; simp [List.intercalate]; exact flat_inter _
        rw [hi2]
        refine WX.drop (up.trans (List.sublist_cons_self _ _)) ?_
        have htot := page_bound (par := par) hdl (n + 1) i
        unfold pageF at htot hQ
        generalize (kids par i).flatMap (pageF par (hdOf Wc wy tx) n) = inn at htot hQ
        rw [ehd] at hQ htot
        have hq : Q (sv (headOf i (wy.getD i 0) tt ++ inn ++ [60, 47] ++ [112 + i] ++ [62])) σ := by rw [page_join]; exact hQ
        have h7 : (headOf i (wy.getD i 0) tt ++ inn ++ [60, 47] ++ [112 + i] ++ [62]).length ≤ 51200 := by rw [page_join]; exact htot
        clear hQ htot ek em
        repeat kt_at_item
        refine SB.list hc (by first | exact Int.natCast_nonneg _ | omega) (by first | exact lt63 (by with_reducible assumption) | omega) (by rw [Int.toNat_natCast]; exact hys i hi) ?_
        repeat kt_at_item
        by_cases hlt : wy.getD i 0 < 2
        · refine iteY (by omega) ?_
          rw [head_low tt hlt] at hq h7
          have h6 := pre_le h7
          have h5 := pre_le h6
          have h4 := pre_le h5
          have h3 := pre_le h4
          have h2 := pre_le h3
          repeat kt_at_item
          refine W.cSv (l := [60]) (by rfl) ?_
          repeat kt_at_item
          refine BO.addStr (pre_ap (pre_le h2)) ?_
          refine W.cSv (l := [62]) (by rfl) ?_
          refine BO.addStr (pre_ap h2) ?_
          repeat kt_at_item
          refine BO.addStr (pre_ap h3) ?_
          repeat kt_at_item
          refine BO.addStr (pre_ap h4) ?_
          refine W.cSv (l := [60, 47]) (by rfl) ?_
          refine BO.addStr (pre_ap h5) ?_
          repeat kt_at_item
          refine BO.addStr (pre_ap h6) ?_
          refine W.cSv (l := [62]) (by rfl) ?_
          refine BO.addStr (pre_ap h7) ?_
          exact ⟨σ, List.Sublist.refl _, hq⟩
        · refine iteN (by omega) ?_
          rw [head_high tt hlt] at hq h7
          have h6 := pre_le h7
          have h5 := pre_le h6
          have h4 := pre_le h5
          have h3 := pre_le h4
          have h2 := pre_le h3
          have h1 := pre_le h2
          repeat kt_at_item
          refine W.cSv (l := [60]) (by rfl) ?_
          repeat kt_at_item
          refine BO.addStr (pre_ap (pre_le h1)) ?_
          refine W.cSv (l := [32, 118, 61, 34]) (by rfl) ?_
          refine BO.addStr (pre_ap h1) ?_
          repeat kt_at_item
          refine BO.addStr (pre_ap h2) ?_
          refine W.cSv (l := [34, 62]) (by rfl) ?_
          refine BO.addStr (pre_ap h3) ?_
          repeat kt_at_item
          refine BO.addStr (pre_ap h4) ?_
          refine W.cSv (l := [60, 47]) (by rfl) ?_
          refine BO.addStr (pre_ap h5) ?_
          repeat kt_at_item
          refine BO.addStr (pre_ap h6) ?_
          refine W.cSv (l := [62]) (by rfl) ?_
          refine BO.addStr (pre_ap h7) ?_
          exact ⟨σ, List.Sublist.refl _, hq⟩
    · rintro xv cenv hce m v ys σ' hv ⟨up, rfl⟩
      obtain ⟨hm, hv'⟩ := nvs_at hv
      rw [range'_get hm] at hv'
      subst hv'
      have hm9 : i + 1 + m < 9 := by simp at hm; omega
      refine WG.local (kind_of hce (by rfl)) ?_
      dsimp only [WTs]
      repeat kt_at_item
      refine SB.list (ha.up up) (by first | exact Int.natCast_nonneg _ | omega) (by first | exact lt63 (by with_reducible assumption) | omega) (by rw [Int.toNat_natCast]; exact iv_getD (by omega)) ?_
      repeat kt_at_item
      rw [List.take_succ_eq_append_getElem hm, List.filter_append, List.map_append, range'_get]
      by_cases hpk : par.getD (i + 1 + m) 0 = (i : Int)
      · refine ifT (beq_iff_eq.mpr hpk) ?_
        repeat kt_at_item
        refine page_ck ⟨hkp, hsp0⟩ lp lW hW lw hw n (i + 1 + m) k σ' _ (ha.up up) (hb.up up) (hc.up up) hm9 (by omega) ?_
        refine ⟨⟨up, ?_⟩, by kt_at_in⟩
        simp only [List.filter_cons, hpk, decide_true, if_true, List.filter_nil, List.map_cons, List.map_nil]
      · refine ifF (beq_eq_false_iff_ne.mpr hpk) ?_
        refine ⟨⟨up, ?_⟩, by kt_at_in⟩
        simp only [List.filter_cons, hpk, decide_false, Bool.false_eq_true, if_false, List.filter_nil, List.map_nil, List.append_nil]
/- F17 -/
noncomputable def txOf (c w : Nat) : List Nat := (txtOf c).flatMap (refOf (tabS w))
theorem hand_all : ∀ c : Fin 8, ∀ w : Fin 4, escs (tabOf w.val) (txtOf c.val) = txOf c.val w.val ∧ (txOf c.val w.val).length ≤ 180 ∧ ∀ i : Fin 8, (escs ((tabOf w.val).take i.val) (txtOf c.val)).length ≤ 1000 := by decide +kernel
theorem txt_len (c : Nat) : (txtOf c).length ≤ 100 := by
  have := word_len c
  simp only [txtOf, List.replicate, List.flatten_cons, List.flatten_nil, List.length_append, List.length_cons, List.length_nil]
  omega
theorem hand_spells (p : P0) : Spells p 262 txOf := by
  refine ⟨by kernel_rfl, fun c w hc hw => ?_⟩
  obtain ⟨h1, h2, h3⟩ := hand_all ⟨c, hc⟩ ⟨w, hw⟩
  dsimp only at h1 h2 h3
  refine ⟨h2, fun k σ Q hQ => hand_ck hw (fun i hi => h3 ⟨i, hi⟩) ?_⟩
  rw [h1]; exact hQ
theorem spelled_spells (p : P0) : Spells p 267 txOf :=
  ⟨by kernel_rfl, fun c w hc hw => ⟨(hand_all ⟨c, hc⟩ ⟨w, hw⟩).2.1, fun k σ Q hQ => CK.more (spelled_ck (k := k) hw (txt_len c) hQ) (Nat.le_succ _)⟩⟩
/- F18 -/
noncomputable def RL3 (dp de dn : Addr) (s : St) : AH := [(dp, .list (nvs s.pl)), (de, .list (nvs s.en)), (dn, .list (s.nm.map sv))]
theorem nvs_len {l : List Nat} : (nvs l).length = l.length := by simp [nvs]
theorem nvs_last {l : List Nat} {d : Nat} (h : l.getLast? = some d) : (nvs l).getLast? = some (.int d 0) := by
  rw [nvs, List.getLast?_map, h]; rfl
theorem erase_last {α : Type} (l : List α) : l.eraseIdx (l.length - 1) = l.dropLast := by
  exact List.eraseIdx_length_sub_one
theorem read_ck {p : P0} {k : Nat} {σ : AH} {page : List Nat} {pieces : List (List Nat)} {q : List Nat} {sN : St} {Q : Value → AH → Prop} (hb : page.length ≤ 1000000) (hs : splits 60 page = q :: pieces) (hl : pieces.length ≤ 60000)
    (hp : ∀ x ∈ pieces, 2 ≤ x.length ∧ x.length ≤ 1000000 ∧ (x.take 1 ≠ [47] → 5 ≤ x.length)) (hr : rdAll pieces St0 = some sN)
    (hQ : ∀ T dp de dn σ', σ.Sublist σ' → Q (.ref T) ((T, .tup [.ref dp, .ref de, .ref dn]) :: (RL3 dp de dn sN ++ σ'))) : CK (gh p) (k + 1) (.ref 279) [sv page] [] Q σ := by
  refine CK.enter (wr := []) (by rfl) (by kernel_rfl) (by rfl) (by rfl) (by rfl) (by rfl) ?_
  intro args kw h hk
  obtain ⟨a1, rfl, h1⟩ := args1 h
  cases List.map_eq_nil_iff.mp hk
  refine C.binds (binds := [("page", a1)]) (by rfl) ⟨by rfl, ?_⟩
  dsimp only [erB, List.map]
  rw [h1]
  intro env he
  repeat kt_at_item
  refine W.list (WA.nil ⟨by simp, fun dp => ?_⟩)
  repeat kt_at_item
  refine W.list (WA.nil ⟨by simp, fun de => ?_⟩)
  repeat kt_at_item
  refine W.list (WA.nil ⟨by simp, fun dn => ?_⟩)
  repeat kt_at_item
  refine W.list (WA.nil ⟨by simp, fun dw => ?_⟩)
  repeat kt_at_item
  refine WX.for (pieces.map sv) (depL (gh p) (pieces.map sv)) (fun it i m σ' => ∃ (st : St) (D : Addr), it = .ref D ∧ rdAll (pieces.drop i) st = some sN ∧ (st.pl.length ≤ i ∧ st.en.length ≤ i ∧ st.nm.length ≤ i ∧ st.dn.length ≤ i) ∧
      Le [("places", .ref dp), ("ends", .ref de), ("names", .ref dn), ("down", .ref dw), ("at", .int (st.at_ : Int) 0)] m ∧ Sb (RL3 dp de dn st ++ ((dw, .list (nvs st.dn)) :: (D, .list (pieces.map sv)) :: σ)) σ') (stLocal (kind_of he (by rfl))) ?_ ?_ ?_ ?_ (by intro _; rfl)
  · refine W.listSliceA ?_
    repeat kt_at_item
    refine ⟨TyIs.str, ?_⟩
    refine WA.cons (W.cSv (l := [60]) (by rfl) ?_) (by rfl)
    repeat kt_at_item
    refine CK.split hb fun D0 => ?_
    rw [hs]
    repeat kt_at_item
    refine ⟨D0, (q :: pieces).map sv, some 1, none, rfl, .inl List.mem_cons_self, by simp; omega, rfl, rfl, fun D => ?_⟩
    have e : pickV ((q :: pieces).map sv) (some 1) none = pieces.map sv := rfl
    rw [e]
    refine ⟨It.listD (.inl List.mem_cons_self), _, List.Sublist.refl _, St0, D, rfl, hr, ⟨Nat.le_refl _, Nat.le_refl _, Nat.le_refl _, Nat.le_refl _⟩, by kt_at_in, ?_⟩
    exact Sb.pull 5 (by rfl) (Sb.pull 4 (by rfl) (Sb.pull 3 (by rfl) (Sb.pull 2 (by rfl) (Sb.pull 0 (by rfl) (Sb.skip _ (Sb.refl _))))))
  · rintro it i m σ' ⟨st, D, rfl, _, _, _, hsb⟩
    exact ⟨D, rfl, .inl (hsb.mem _ (by simp [RL3]))⟩
  · rintro it i m σ' v hv ⟨st, D, rfl, hrun, ⟨l1, l2, l3, l4⟩, hm, hsb⟩
    have hi : i < pieces.length := by have := (List.getElem?_eq_some_iff.mp hv).1; simpa using this
    have ev : v = sv pieces[i] := by
      rw [List.getElem?_map, List.getElem?_eq_getElem hi] at hv
      exact (Option.some.inj hv).symm
    subst ev
    obtain ⟨hx2, hxl, hx5⟩ := hp _ (List.getElem_mem hi)
    rw [List.drop_eq_getElem_cons hi] at hrun
    generalize pieces[i] = x at *
    rw [rdAll] at hrun
    obtain ⟨st', hst, hrun'⟩ : ∃ st', rdStep x st = some st' ∧ rdAll (pieces.drop (i + 1)) st' = some sN := by
      cases h : rdStep x st with
      | none => rw [h] at hrun; cases hrun
      | some st' => rw [h] at hrun; exact ⟨st', rfl, hrun⟩
    have hln := rdStep_len hst
    refine WX.sb hsb (WX.le (M := [("piece", sv x), ("places", .ref dp), ("ends", .ref de), ("names", .ref dn), ("down", .ref dw), ("at", .int (st.at_ : Int) 0)]) (Le.cons lookup_cons_self (Le.skip hm (by rfl))) ?_)
    refine WX.iteJ (fun m σ' => Le [("piece", sv x), ("places", .ref dp), ("ends", .ref de), ("names", .ref dn), ("down", .ref dw), ("at", .int (st.at_ : Int) 0)] m ∧ Sb (RL3 dp de dn st' ++ ((dw, .list (nvs st'.dn)) :: (D, .list (pieces.map sv)) :: σ)) σ') ?_ ?_
    · repeat kt_at_item
      refine W.strSlice ?_ (by intro _ _; rfl)
      repeat kt_at_item
      refine ⟨x, none, some 1, rfl, hxl, ⟨Nat.zero_le _, by simp; omega⟩, rfl, rfl, ?_⟩
      refine W.cSv (l := [47]) (by rfl) ?_
      repeat kt_at_item
      have e1 : pickV x none (some 1) = x.take 1 := rfl
      rw [e1]
      unfold rdStep at hst
      by_cases hc : x.take 1 = [47]
      · simp only [hc, decide_true, if_true] at hst ⊢
        obtain ⟨d, hd, hdl, rfl⟩ : ∃ d, st.dn.getLast? = some d ∧ d < st.en.length ∧ st' = ⟨st.pl, st.en.set d st.at_, st.nm, st.dn.dropLast, st.at_ + 1 + x.length⟩ := by
          cases hg : st.dn.getLast? with
          | none => rw [hg] at hst; cases hst
          | some d =>
            rw [hg] at hst
            dsimp only at hst
            split at hst
            · cases hst; exact ⟨d, rfl, by assumption, rfl⟩
            · cases hst
        refine WX.setItem ?_ (by rfl)
        repeat kt_at_item
        refine SB.listNeg (n := 0) (vs := nvs st.dn) (.inl (by simp [RL3])) (nvs_last hd) (by rw [nvs_len]; omega) ?_
        refine ST.list (i := 1) (vs := nvs st.en) (by rfl) (by omega) (by rw [nvs_len]; exact hdl) ?_
        refine WX.delItem ?_
        repeat kt_at_item
        have hdne : 0 < st.dn.length := by
          cases h : st.dn with
          | nil => rw [h] at hd; cases hd
          | cons => simp
        refine DL.list (i := 3) (vs := nvs st.dn) (x := -1) (j := st.dn.length - 1) (by rfl) ?_ (by decide) (by rw [nvs_len]; omega) ?_
        · rw [nvs_len]
          have e : ((-1 : Int) + (st.dn.length : Int)) = ((st.dn.length - 1 : Nat) : Int) := by omega
          unfold seqIndex?
          simp only [show ((-1 : Int) < 0) = True from by simp, if_true, e]
          have e4 : (decide ((0 : Int) ≤ ((st.dn.length - 1 : Nat) : Int)) && decide (((st.dn.length - 1 : Nat) : Int) < (st.dn.length : Int))) = true := by
            simp only [Bool.and_eq_true, decide_eq_true_eq]; omega
          rw [e4]
          simp
        repeat kt_at_item
        refine ⟨rfl, by kt_at_in, ?_⟩
        have e2 : nvs (st.en.set d st.at_) = (nvs st.en).set d (.int (st.at_ : Int) 0) := by simp [nvs, List.map_set]
        have e3 : nvs st.dn.dropLast = (nvs st.dn).eraseIdx (st.dn.length - 1) := by
          have := erase_last (nvs st.dn)
          rw [nvs_len] at this
          rw [this]
          simp [nvs]
        unfold RL3
        dsimp only
        rw [e2, e3]
        exact Sb.refl _
      · simp only [hc, decide_false, Bool.false_eq_true, if_false] at hst ⊢
        cases hst
        have hx5' := hx5 hc
        refine WX.assign ?k1 (WV.mid (fun v m' σ' => v = .int (skipOf x : Int) 0 ∧ Le [("piece", sv x), ("places", .ref dp), ("ends", .ref de), ("names", .ref dn), ("down", .ref dw), ("at", .int (st.at_ : Int) 0)] m' ∧ σ' = RL3 dp de dn st ++ ((dw, .list (nvs st.dn)) :: (D, .list (pieces.map sv)) :: σ)) ?_ ?_) ?k2
        case k1 => exact kind_of he (by rfl)
        case k2 => rfl
        · repeat kt_at_item
          refine W.strSlice ?_ (by intro _ _; rfl)
          repeat kt_at_item
          refine ⟨x, some 1, some 2, rfl, hxl, ⟨by simp, by simp; omega⟩, rfl, rfl, ?_⟩
          refine W.cSv (l := [62]) (by rfl) ?_
          repeat kt_at_item
          have e1 : pickV x (some 1) (some 2) = (x.drop 1).take 1 := rfl
          rw [e1]
          by_cases hc2 : (x.drop 1).take 1 = [62]
          · have es : skipOf x = 2 := if_pos hc2
            refine iteY hc2 ?_
            repeat kt_at_item
            exact ⟨by rw [es]; rfl, by kt_at_in, rfl⟩
          · have es : skipOf x = 5 := if_neg hc2
            refine iteN hc2 ?_
            repeat kt_at_item
            exact ⟨by rw [es]; rfl, by kt_at_in, rfl⟩
        · rintro v m σ' ⟨rfl, hm, rfl⟩
          refine WX.le (M := [("skip", .int (skipOf x : Int) 0), ("piece", sv x), ("places", .ref dp), ("ends", .ref de), ("names", .ref dn), ("down", .ref dw), ("at", .int (st.at_ : Int) 0)]) (Le.cons lookup_cons_self (Le.skip hm (by rfl))) ?_
          repeat kt_at_item
          refine ⟨TyIs.list (vs := nvs st.dn) (.inl (by simp [RL3])), ?_⟩
          repeat kt_at_item
          refine CK.len (vs := nvs st.pl) (.inl (by simp [RL3])) (by rw [nvs_len]; omega) ?_
          repeat kt_at_item
          refine CK.append (i := 3) (vs := nvs st.dn) (by rfl) (by rw [nvs_len]; omega) ?_
          repeat kt_at_item
          refine ⟨TyIs.list (vs := nvs st.pl) (.inl List.mem_cons_self), ?_⟩
          repeat kt_at_item
          refine CK.append (i := 0) (vs := nvs st.pl) (by rfl) (by rw [nvs_len]; omega) ?_
          repeat kt_at_item
          refine ⟨TyIs.list (vs := nvs st.en) (.inl (List.mem_cons_of_mem _ List.mem_cons_self)), ?_⟩
          repeat kt_at_item
          refine CK.append (i := 1) (vs := nvs st.en) (by rfl) (by rw [nvs_len]; omega) ?_
          repeat kt_at_item
          refine ⟨TyIs.list (vs := st.nm.map sv) (.inl (List.mem_cons_of_mem _ (List.mem_cons_of_mem _ List.mem_cons_self))), ?_⟩
          repeat kt_at_item
          refine W.strSlice ?_ (by intro _ _; rfl)
          have hsk : skipOf x ≤ x.length := by unfold skipOf; split <;> omega
          repeat kt_at_item
          refine ⟨x, some (skipOf x), none, rfl, hxl, ⟨by simpa using hsk, Nat.le_refl _⟩, rfl, rfl, ?_⟩
          have e2 : pickV x (some (skipOf x)) none = x.drop (skipOf x) := rfl
          rw [e2]
          refine ⟨TyIs.str, ?_⟩
          refine WA.cons (W.cSv (l := [32]) (by rfl) ?_) (by rfl)
          repeat kt_at_item
          refine CK.split (by rw [List.length_drop]; omega) fun D1 => ?_
          repeat kt_at_item
          have hhd : ((splits 32 (x.drop (skipOf x))).map sv)[0]? = some (sv ((splits 32 (x.drop (skipOf x))).headD [])) := by
            cases h : splits 32 (x.drop (skipOf x)) with
            | nil => exact absurd h (splits_ne _ _)
            | cons => rfl
          refine SB.list (i := 0) (.inl List.mem_cons_self) (by decide) (by decide) hhd ?_
          repeat kt_at_item
          refine CK.append (i := 3) (vs := st.nm.map sv) (by rfl) (by rw [List.length_map]; omega) ?_
          repeat kt_at_item
          refine ⟨rfl, by kt_at_in, ?_⟩
          have f1 : nvs (st.pl ++ [st.at_ + 1 + skipOf x]) = nvs st.pl ++ [.int ((st.at_ : Int) + 1 + (skipOf x : Int)) 0] := by simp [nvs]
          have f2 : nvs (st.en ++ [0]) = nvs st.en ++ [.int 0 0] := by simp [nvs]
          have f3 : nvs (st.dn ++ [st.pl.length]) = nvs st.dn ++ [.int ((nvs st.pl).length : Int) 0] := by simp [nvs]
          have f4 : (st.nm ++ [(splits 32 (x.drop (skipOf x))).headD []]).map sv = st.nm.map sv ++ [sv ((splits 32 (x.drop (skipOf x))).headD [])] := by simp
          unfold RL3
          dsimp only
          rw [f1, f2, f3, f4]
          exact Sb.skip _ (Sb.refl _)
    · rintro m σ' ⟨hm, hsb⟩
      refine WX.sb hsb (WX.le hm ?_)
      repeat kt_at_item
      refine CK.lenStr hxl ?_
      repeat kt_at_item
      refine ⟨st', D, rfl, hrun', ⟨by omega, by omega, by omega, by omega⟩, ?_, Sb.refl _⟩
      have e : st'.at_ = st.at_ + 1 + x.length := by
        unfold rdStep at hst
        split at hst
        · split at hst
          · split at hst
            · cases hst; rfl
            · cases hst
          · cases hst
        · cases hst; rfl
      refine Le.cons (by rfl) (Le.cons (by rfl) (Le.cons (by rfl) (Le.cons (by rfl) (Le.cons ?_ Le.nil))))
      rw [e]
      rfl
  · rintro it m σ' ⟨st, D, rfl, hrun, _, hm, hsb⟩
    refine WX.sb hsb (WX.le hm ?_)
    have e : st = sN := by
      rw [List.length_map, List.drop_length] at hrun
      exact Option.some.inj hrun
    subst e
    repeat kt_at_item
    refine W.tuple ?_
    repeat kt_at_item
    refine ⟨by simp, fun T => ?_⟩
    exact hQ T dp de dn _ ((List.sublist_cons_self _ _).trans (List.sublist_cons_self _ _))
/- F19 -/
theorem downVs (n : Nat) : rangeVs ((n : Int) - 1) (-1) (-1) = nvs ((List.range n).map fun i => n - 1 - i) := by
  have e : Builtin.Range.rangeSize ((n : Int) - 1) (-1) (-1) = (n : Int) := by
    unfold Builtin.Range.rangeSize
    rw [if_neg (by decide)]
    split
    · rw [show -(-1 : Int) = 1 by decide, Int.ediv_one]; omega
    · omega
  unfold rangeVs nvs
  rw [e, Int.toNat_natCast, List.map_map]
  apply List.map_congr_left
  intro i hi
  have := List.mem_range.mp hi
  simp
  omega
theorem down_small {n : Nat} (h : n ≤ 1000) : Builtin.Range.small ((n : Int) - 1) (-1) (-1) = true := by
  have hf : ∀ i : Int, -10000 ≤ i → i ≤ 10000 → Builtin.Range.rangeFitsLong i = true := fun i h1 h2 => by
    unfold Builtin.Range.rangeFitsLong
    simp only [Bool.and_eq_true, decide_eq_true_eq]
    omega
  have e : Builtin.Range.rangeSize ((n : Int) - 1) (-1) (-1) = (n : Int) := by
    unfold Builtin.Range.rangeSize
    rw [if_neg (by decide)]
    split
    · rw [show -(-1 : Int) = 1 by decide, Int.ediv_one]; omega
    · omega
  unfold Builtin.Range.small
  rw [e]
  rw [hf _ (by omega) (by omega), hf _ (by omega) (by omega), hf _ (by omega) (by omega)]
  simp only [Bool.true_and, Bool.or_eq_true, beq_iff_eq]
  right
  rw [if_neg (by decide)]
  exact hf _ (by omega) (by omega)
noncomputable def numT (l : List Nat) : Nat := lowC (l.headD 0) - 112
noncomputable def keepF (pl en : List Int) (K : List (List Nat)) (l : List Nat) : Bool := decide (∀ j ∈ K.map numT, ¬ (pl.getD (numT l) 0 < pl.getD j 0 ∧ pl.getD j 0 < en.getD (numT l) 0))
theorem tag_first {n : Nat} (hn : n < 9) : ∀ j, j < n → ([112, 113, 114, 115, 116, 117, 118, 119, 120] : List Nat)[j]? ≠ some (112 + n) := by
  intro j hj
  rw [tag_char (by omega)]
  intro e
  have := Option.some.inj e
  omega
theorem least_ck {p : P0} {k : Nat} {σ : AH} {x dx dd b c : Addr} {ts : HT} {pl en : List Int} {Q : Value → AH → Prop} (hb : Rd (gh p) σ b (.list (iv pl))) (hc : Rd (gh p) σ c (.list (iv en))) (lp : pl.length = 9) (le : en.length = 9)
    (lt : ts.length ≤ 100) (ht : ∀ l ∈ ts.map (·.2.1), ∃ n y, n < 9 ∧ l = tagOf n y)
    (hQ : ∀ D, Q (.ref D) ((D, .list (((ts.map (·.2.1)).filter (keepF pl en (ts.map (·.2.1)))).map sv)) :: (HL x dx dd ts ++ σ))) : CK (gh p) (k + 2) (.ref 341) [.ref x, .ref b, .ref c] [] Q (HL x dx dd ts ++ σ) := by
  refine CK.post ?_
  refine CK.enter (wr := ["places", "ends", "named", "at"]) (by rfl) (by kernel_rfl) (by rfl) (by rfl) (by rfl) (by rfl) ?_
  intro args kw h hk
  obtain ⟨a1, a2, a3, rfl, h1, h2, h3⟩ := args3 h
  cases List.map_eq_nil_iff.mp hk
  refine C.binds (binds := [("found", a1), ("places", a2), ("ends", a3)]) (by rfl) ⟨by rfl, ?_⟩
  dsimp only [erB, List.map]
  rw [h1, h2, h3]
  intro env he
  repeat kt_at_item
  refine W.selfFn (f := 161) (x := x) (dx := dx) (d := dd) (by kernel_rfl) (by kernel_rfl) (by rfl) (by kernel_rfl) ?_ (by rfl) (by rfl) (by rfl) (by rfl) (by rfl)
  repeat kt_at_item
  refine ⟨rfl, HL.ins, ?_⟩
  repeat kt_at_item
  refine keys_ck (by omega) fun T => ?_
  have eK : (ts.map fun t => sv t.2.1) = (ts.map (·.2.1)).map sv := by rw [List.map_map]; rfl
  rw [eK]
  have lK : (ts.map (·.2.1)).length ≤ 100 := by rw [List.length_map]; exact lt
  generalize hKK : ts.map (·.2.1) = K at ht hQ lK
  revert hQ
  refine GenE (HL x dx dd ts ++ σ) ?_
  intro σ1 hσ1 hQ
  have up : σ.Sublist σ1 := by rw [← hσ1]; exact List.sublist_append_right _ _
  clear hσ1 eK
  have hT : ∀ l ∈ K, ∃ n, n < 9 ∧ numT l = n ∧ l.map lowC = [112 + n] ∧ (∀ c ∈ l, c < 128) ∧ l.length ≤ 10 := by
    intro l hl
    obtain ⟨n, y, hn, rfl⟩ := ht l hl
    refine ⟨n, hn, ?_⟩
    unfold tagOf
    split
    · refine ⟨?_, ?_, ?_, by simp⟩
      · show lowC (112 + n) - 112 = n; unfold lowC; rw [if_neg (by omega)]; omega
      · simp only [List.map_cons, List.map_nil, lowC]; rw [if_neg (by omega)]
      · intro c hc; rw [List.mem_singleton.mp hc]; omega
    · refine ⟨?_, ?_, ?_, by simp⟩
      · show lowC (80 + n) - 112 = n; unfold lowC; rw [if_pos (by omega)]; omega
      · simp only [List.map_cons, List.map_nil, lowC]; rw [if_pos (by omega)]; congr 1; omega
      · intro c hc; rw [List.mem_singleton.mp hc]; omega
  have hTr : Rd (gh p) ((T, AO.list (K.map sv)) :: σ1) T (.list (K.map sv)) := .inl List.mem_cons_self
  repeat kt_at_item
  refine W.comp he (K.map sv) (depL (gh p) (K.map sv)) (fun xv i ys σ' => xv = .ref T ∧ σ' = (T, AO.list (K.map sv)) :: σ1 ∧ ys = nvs ((K.take i).map numT)) [] (by rfl) (by rfl) (by simp; omega) (by kt_at_in) ?_ ?_ ?_ (by intro _; rfl)
  · repeat kt_at_item
    refine ⟨It.listD hTr, ⟨_, List.Sublist.refl _, rfl, rfl, rfl⟩, by kt_at_in, ?_⟩
    rintro ys σ' N ⟨_, rfl, rfl⟩
    rw [List.length_map, List.take_of_length_le (Nat.le_refl _)]
    refine WX.for (nvs ((List.range K.length).map fun i => K.length - 1 - i)) (fun _ _ => True) (fun _ i m σ' => Le [("told", .ref T), ("named", .ref N), ("places", .ref b), ("ends", .ref c)] m ∧ Sb ((T, .list ((K.take (K.length - i) ++ (K.drop (K.length - i)).filter (keepF pl en K)).map sv)) :: (N, .list (nvs (K.map numT))) :: σ1) σ') (stCell (kind_of he (by rfl)) (by decide)) ?_ (fun _ _ _ _ _ => trivial) ?_ ?_ (by intro _; rfl)
    · repeat kt_at_item
      refine CK.len (.inl List.mem_cons_self) (by rw [nvs_len, List.length_map]; omega) ?_
      rw [nvs_len, List.length_map]
      repeat kt_at_item
      refine CK.range3 (by decide) (by decide) fun R o ho => ?_
      have hit := It.range (g := gh p) (σ := (R, AO.is o) :: (N, AO.list (nvs (K.map numT))) :: (T, AO.list (K.map sv)) :: σ1) List.mem_cons_self ho (down_small (by omega))
      rw [downVs] at hit
      refine ⟨hit.triv fun _ _ => trivial, _, List.sublist_cons_self _ _, by kt_at_in, ?_⟩
      rw [Nat.sub_zero, List.take_of_length_le (Nat.le_refl _), List.drop_length, List.filter_nil, List.append_nil]
      exact Sb.pull 1 (by rfl) (Sb.refl _)
    · rintro it i m σ' v hv ⟨hm, hsb⟩
      obtain ⟨hi, hv'⟩ := nvs_at hv
      have hik : i < K.length := by simpa using hi
      have ei : ((List.range K.length).map fun i => K.length - 1 - i)[i] = K.length - 1 - i := by simp
      rw [ei] at hv'
      subst hv'
      generalize hat : K.length - 1 - i = at_
      have hatl : at_ < K.length := by omega
      have e1 : K.length - i = at_ + 1 := by omega
      have e2 : K.length - (i + 1) = at_ := by omega
      rw [e1] at hsb
      rw [e2]
      refine WX.sb hsb (WX.le (M := [("at", .int (at_ : Int) 0), ("told", .ref T), ("named", .ref N), ("places", .ref b), ("ends", .ref c)]) (Le.cons lookup_cons_self (Le.skip hm (by rfl))) ?_)
      obtain ⟨n, hn9, hnum, _⟩ := hT _ (List.getElem_mem hatl)
      generalize hrest : (K.drop (at_ + 1)).filter (keepF pl en K) = rest
      generalize hnmd : K.map numT = nmd at *
      have lnm : nmd.length ≤ 100 := by rw [← hnmd, List.length_map]; exact lK
      have hnm9 : ∀ j ∈ nmd, j < 9 := fun j hj => by
        rw [← hnmd] at hj
        obtain ⟨l, hl, rfl⟩ := List.mem_map.mp hj
        obtain ⟨n, hn, e, _⟩ := hT l hl
        omega
      have hgn : (nvs nmd)[at_]? = some (.int (n : Int) 0) := by
        rw [← hnmd, nvs, List.getElem?_map, List.getElem?_map, List.getElem?_eq_getElem hatl]
        simp [hnum]
      refine GenE ((T, AO.list ((K.take (at_ + 1) ++ rest).map sv)) :: (N, AO.list (nvs nmd)) :: σ1) ?_
      intro σ2 hσ2
      have up2 : σ.Sublist σ2 := by rw [← hσ2]; exact (up.trans (List.sublist_cons_self _ _)).trans (List.sublist_cons_self _ _)
      have hN2 : Rd (gh p) σ2 N (.list (nvs nmd)) := by rw [← hσ2]; exact .inl (List.mem_cons_of_mem _ List.mem_cons_self)
      generalize hcond : (fun j : Nat => decide (pl.getD n 0 < pl.getD j 0 ∧ pl.getD j 0 < en.getD n 0)) = cond
      have hcj : ∀ j, cond j = decide (pl.getD n 0 < pl.getD j 0 ∧ pl.getD j 0 < en.getD n 0) := fun j => by rw [← hcond]
      repeat kt_at_item
      refine W.comp he (nvs nmd) (depL (gh p) (nvs nmd)) (fun xv i ys σ' => xv = .ref N ∧ σ' = σ2 ∧ ys = nvs ((nmd.take i).filter cond)) [("at", .int (at_ : Int) 0), ("named", .ref N), ("places", .ref b), ("ends", .ref c)] (by rfl) (by rfl) (by rw [nvs_len]; omega) (by kt_at_in) ?_ ?_ ?_ (by intro _; rfl)
      · repeat kt_at_item
        refine ⟨It.listD hN2, ⟨_, List.Sublist.refl _, rfl, rfl, rfl⟩, by kt_at_in, ?_⟩
        rintro ys σ' F ⟨_, rfl, rfl⟩
        rw [nvs_len, List.take_of_length_le (Nat.le_refl _)]
        repeat kt_at_item
        refine W.list (WA.nil ⟨by simp, fun E => ?_⟩)
        refine CO.neL (R := RI) EqR.int (cs := (nmd.filter cond).map fun (i : Nat) => (i : Int)) (ds := []) ⟨F, _, rfl, .inl (List.mem_cons_of_mem _ List.mem_cons_self), both_nvs _⟩ ⟨E, _, rfl, .inl List.mem_cons_self, rfl, by simp⟩ ?_
        repeat kt_at_item
        subst hσ2
        have hkeep : keepF pl en K K[at_] = decide (((nmd.filter cond).map fun (i : Nat) => (i : Int)) = []) := by
          unfold keepF
          rw [hnmd, hnum]
          rw [decide_eq_decide, List.map_eq_nil_iff, List.filter_eq_nil_iff]
          refine forall_congr' fun j => forall_congr' fun _ => ?_
          rw [hcj, decide_eq_true_eq]
        have hnew : (K.take at_ ++ (K.drop at_).filter (keepF pl en K)).map sv = (K.take at_).map sv ++ ((if keepF pl en K K[at_] then [sv K[at_]] else []) ++ rest.map sv) := by
          rw [List.drop_eq_getElem_cons hatl, List.filter_cons, List.map_append]
          congr 1
          rw [hrest]
          split <;> simp
        have hold : (K.take (at_ + 1) ++ rest).map sv = (K.take at_).map sv ++ ([sv K[at_]] ++ rest.map sv) := by
          rw [List.take_succ_eq_append_getElem hatl, List.map_append, List.map_append, List.append_assoc]; rfl
        have hlt : ((K.take at_).map sv).length = at_ := by rw [List.length_map, List.length_take]; omega
        rw [hnew, hkeep, hold]
        by_cases hz : ((nmd.filter cond).map fun (i : Nat) => (i : Int)) = []
        · simp only [hz, decide_true, Bool.not_true, Bool.false_eq_true, if_false, if_true]
          refine WX.drop ((List.sublist_cons_self _ _).trans (List.sublist_cons_self _ _)) ?_
          repeat kt_at_item
          exact ⟨by kt_at_in, Sb.refl _⟩
        · simp only [hz, decide_false, Bool.not_false, Bool.false_eq_true, if_false, if_true]
          refine WX.drop ((List.sublist_cons_self _ _).trans (List.sublist_cons_self _ _)) ?_
          refine WX.delItem ?_
          repeat kt_at_item
          refine DL.list (i := 0) (vs := (K.take at_).map sv ++ ([sv K[at_]] ++ rest.map sv)) (j := at_) (by rfl) ?_ ?_ ?_ ?_
          · rw [StrLaws.seqIndex_nonneg (by omega) (by simp only [List.length_append, List.length_cons]; omega), Int.toNat_natCast]
          · unfold Builtin.List.listFitsIndex
            simp only [Bool.and_eq_true, decide_eq_true_eq]; omega
          · have : rest.length ≤ K.length := by
              rw [← hrest]
              refine Nat.le_trans (List.length_filter_le _ _) ?_
              rw [List.length_drop]; omega
            simp only [List.length_append, List.length_cons, List.length_nil, List.length_map] at hlt ⊢
            omega
          · repeat kt_at_item
            refine ⟨by kt_at_in, ?_⟩
            have e5 : ((K.take at_).map sv ++ ([sv K[at_]] ++ rest.map sv)).eraseIdx at_ = (K.take at_).map sv ++ ([] ++ rest.map sv) := by
              rw [List.eraseIdx_append_of_length_le (by omega), hlt, Nat.sub_self]; rfl
            rw [e5]
            exact Sb.refl _
      · rintro xv i ys σ' ⟨rfl, rfl, _⟩
        exact ⟨N, rfl, hN2⟩
      · rintro xv cenv hce i v ys σ' hv ⟨rfl, rfl, rfl⟩
        obtain ⟨hi, rfl⟩ := nvs_at hv
        have hj9 := hnm9 _ (List.getElem_mem hi)
        generalize hjj : nmd[i] = j at hj9 ⊢
        refine WG.local (kind_of hce (by rfl)) ?_
        dsimp only [WTs]
        refine WT.chain2 ?_ (by rfl)
        repeat kt_at_item
        refine SB.list hN2 (by first | exact Int.natCast_nonneg _ | omega) (by first | exact lt63 (by with_reducible assumption) | omega) (by rw [Int.toNat_natCast]; exact hgn) ?_
        refine SB.list (hb.up up2) (by first | exact Int.natCast_nonneg _ | omega) (by first | exact lt63 (by with_reducible assumption) | omega) (by rw [Int.toNat_natCast]; exact iv_getD (by omega)) ?_
        repeat kt_at_item
        refine SB.list (hb.up up2) (by first | exact Int.natCast_nonneg _ | omega) (by first | exact lt63 (by with_reducible assumption) | omega) (by rw [Int.toNat_natCast]; exact iv_getD (by omega)) ?_
        repeat kt_at_item
        have htake : (nmd.take (i + 1)).filter cond = (nmd.take i).filter cond ++ (if cond j then [j] else []) := by
          rw [List.take_succ_eq_append_getElem hi, List.filter_append, hjj, List.filter_cons, List.filter_nil]
        have hcj' := hcj j
        by_cases c1 : pl.getD n 0 < pl.getD j 0
        · refine iteY c1 ?_
          repeat kt_at_item
          refine SB.list hN2 (by first | exact Int.natCast_nonneg _ | omega) (by first | exact lt63 (by with_reducible assumption) | omega) (by rw [Int.toNat_natCast]; exact hgn) ?_
          refine SB.list (hc.up up2) (by first | exact Int.natCast_nonneg _ | omega) (by first | exact lt63 (by with_reducible assumption) | omega) (by rw [Int.toNat_natCast]; exact iv_getD (by omega)) ?_
          repeat kt_at_item
          by_cases c2 : pl.getD j 0 < en.getD n 0
          · simp only [c2, decide_true, if_true]
            repeat kt_at_item
            refine ⟨⟨trivial, rfl, ?_⟩, by kt_at_in⟩
            rw [htake, hcj']
            simp only [c1, c2, and_self, decide_true, if_true, nvs, List.map_append]; rfl
          · simp only [c2, decide_false, Bool.false_eq_true, if_false]
            refine ⟨⟨trivial, trivial, ?_⟩, by kt_at_in⟩
            rw [htake, hcj']
            simp only [c1, c2, and_false, decide_false, Bool.false_eq_true, if_false, List.append_nil]
        · simp only [c1, decide_false, Bool.false_eq_true, if_false]
          refine ⟨⟨trivial, trivial, ?_⟩, by kt_at_in⟩
          rw [htake, hcj']
          simp only [c1, false_and, decide_false, Bool.false_eq_true, if_false, List.append_nil]
    · rintro it m σ' ⟨hm, hsb⟩
      rw [nvs_len, List.length_map, List.length_range, Nat.sub_self, List.take_zero, List.drop_zero, List.nil_append] at hsb
      refine WX.sb hsb (WX.le hm ?_)
      repeat kt_at_item
      refine ⟨_, ?_, hQ T⟩
      exact (List.sublist_cons_self _ _).cons_cons _
  · rintro xv i ys σ' ⟨rfl, rfl, _⟩
    exact ⟨T, rfl, hTr⟩
  · rintro xv cenv hce i v ys σ' hv ⟨rfl, rfl, rfl⟩
    have hi : i < K.length := by have := (List.getElem?_eq_some_iff.mp hv).1; simpa using this
    have ev : v = sv K[i] := by
      rw [List.getElem?_map, List.getElem?_eq_getElem hi] at hv
      exact (Option.some.inj hv).symm
    subst ev
    obtain ⟨n, hn9, hnum, hlow, hasc, hlen⟩ := hT _ (List.getElem_mem hi)
    refine WG.local (kind_of hce (by rfl)) ?_
    simp only [WTs, if_true]
    repeat kt_at_item
    refine W.cSv (l := [112, 113, 114, 115, 116, 117, 118, 119, 120]) (by rfl) ?_
    refine ⟨TyIs.str, ?_⟩
    repeat kt_at_item
    refine ⟨TyIs.str, ?_⟩
    repeat kt_at_item
    refine CK.lower (lower_is hasc) (by rw [List.length_map]; omega) ?_
    repeat kt_at_item
    rw [hlow]
    refine CK.index (i := n) (tag_char hn9) (tag_first hn9) ?_
    refine ⟨⟨trivial, rfl, ?_⟩, by kt_at_in⟩
    rw [List.take_succ_eq_append_getElem hi, List.map_append, List.map_cons, List.map_nil, hnum]
    simp [nvs]
/- P9 -/
/-- what a page tells -/
structure Told (par pl en : List Int) : Prop where
  lp : pl.length = 9
  le : en.length = 9
  inc : ∀ x y, x < y → y < 9 → pl.getD x 0 < pl.getD y 0
  self : ∀ x, x < 9 → pl.getD x 0 < en.getD x 0
  inn : ∀ x y, x < y → y < 9 → Anc par x y → pl.getD y 0 < en.getD x 0
  out : ∀ x y, x < y → y < 9 → ¬ Anc par x y → en.getD x 0 < pl.getD y 0
  nn : ∀ x, x < 9 → 0 ≤ pl.getD x 0 ∧ pl.getD x 0 < 10 ^ 10
section
variable {par pl en : List Int}
theorem Told.le_iff (T : Told par pl en) {x y : Nat} (hx : x < 9) (hy : y < 9) : pl.getD x 0 ≤ pl.getD y 0 ↔ x ≤ y := by
  constructor
  · intro h
    by_cases q : x ≤ y
    · exact q
    · have := T.inc y x (by omega) hx; omega
  · intro h
    rcases Nat.lt_or_eq_of_le h with q | rfl
    · exact Int.le_of_lt (T.inc x y q hy)
    · exact Int.le_refl _
theorem Told.lt_iff (T : Told par pl en) {x y : Nat} (hx : x < 9) (hy : y < 9) : pl.getD x 0 < pl.getD y 0 ↔ x < y := by
  have := T.le_iff hy hx
  constructor
  · intro h; by_cases q : x < y
    · exact q
    · have := this.mpr (by omega); omega
  · intro h; exact T.inc x y h hy
/-- an end tells what is held -/
theorem Told.end_iff (T : Told par pl en) {x y : Nat} (hxy : x ≤ y) (hy : y < 9) : ¬ en.getD x 0 < pl.getD y 0 ↔ Anc par x y := by
  rcases Nat.lt_or_eq_of_le hxy with q | rfl
  · constructor
    · intro h; exact Classical.byContradiction fun c => h (T.out x y q hy c)
    · intro h; have := T.inn x y q hy h; omega
  · have := T.self x hy
    exact ⟨fun _ => Anc.refl x, fun _ => by omega⟩
theorem Told.in_iff (T : Told par pl en) {x y : Nat} (hxy : x ≤ y) (hy : y < 9) : pl.getD y 0 < en.getD x 0 ↔ Anc par x y := by
  rcases Nat.lt_or_eq_of_le hxy with q | rfl
  · constructor
    · intro h; exact Classical.byContradiction fun c => by have := T.out x y q hy c; omega
    · intro h; exact T.inn x y q hy h
  · exact ⟨fun _ => Anc.refl x, fun _ => T.self x hy⟩
theorem commF_is (hp : Pre par) (T : Told par pl en) {M : Nat} (hM : M < 9) : ∀ n, n ≤ M → Anc par (commF en (pl.getD M 0) n) M ∧ ∀ p, p ≤ n → Anc par p M → p ≤ commF en (pl.getD M 0) n
  | 0, _ => ⟨Anc.root hp hM, fun p h _ => h⟩
  | n + 1, h => by
    unfold commF
    split
    · rename_i hc
      obtain ⟨a, b⟩ := commF_is hp T hM n (by omega)
      refine ⟨a, fun p hpn ha => ?_⟩
      rcases Nat.lt_or_eq_of_le hpn with q | rfl
      · exact b p (by omega) ha
      · exact absurd hc ((T.end_iff h hM).mpr ha)
    · rename_i hc
      exact ⟨(T.end_iff h hM).mp hc, fun p hpn _ => hpn⟩
theorem comm_is (hp : Pre par) (T : Told par pl en) {x y : Nat} (hx : x < 9) (hy : y < 9) : Anc par (comm pl en x y) x ∧ Anc par (comm pl en x y) y ∧ ∀ p, Anc par p x → Anc par p y → p ≤ comm pl en x y := by
  have key := commF_is hp T (M := max x y) (by omega) (min x y) (by omega)
  have hle := commF_le en (pl.getD (max x y) 0) (min x y)
  unfold comm
  generalize commF en (pl.getD (max x y) 0) (min x y) = c at key hle
  obtain ⟨a, b⟩ := key
  refine ⟨a.mid (by omega) (by omega), a.mid (by omega) (by omega), fun p h1 h2 => b p (by have := h1.1; have := h2.1; omega) ?_⟩
  rcases Nat.le_total x y with q | q
  · rwa [Nat.max_eq_right q]
  · rwa [Nat.max_eq_left q]
theorem pick_mem {Y : List Nat} {a b i : Nat} (hi : i < Y.length) (h1 : a ≤ i) (h2 : i < b) : Y[i] ∈ pickV Y (some a) (some b) := by
  show Y[i] ∈ (Y.drop a).take (b - a)
  refine List.mem_of_getElem? (i := i - a) ?_
  rw [List.getElem?_take, if_pos (by omega), List.getElem?_drop, show a + (i - a) = i by omega, List.getElem?_eq_getElem hi]
theorem mem_pick {Y : List Nat} {a b y : Nat} (h : y ∈ pickV Y (some a) (some b)) : y ∈ Y := List.mem_of_mem_drop (List.mem_of_mem_take h)
/-- the nearest two tell the deepest part with one of the kind -/
theorem near_deep (hp : Pre par) (T : Told par pl en) {Y : List Nat} (hY : Y.Pairwise (· < ·)) (h9 : ∀ y ∈ Y, y < 9) {x : Nat} (hx : x < 9) :
    Deep par (fun p => ∃ y, y ∈ Y ∧ Anc par p y) x (nearF pl en x Y (cntLe (Y.map fun y => pl.getD y 0) (pl.getD x 0))) := by
  have hrow : (Y.map fun y => pl.getD y 0).Pairwise (· ≤ ·) := by
    rw [List.pairwise_map]
    refine hY.imp_of_mem fun {a b} ha hb hab => Int.le_of_lt (T.inc a b hab (h9 b hb))
  obtain ⟨s1, s2⟩ := cnt_split (pl.getD x 0) _ hrow
  have htl : cntLe (Y.map fun y => pl.getD y 0) (pl.getD x 0) ≤ Y.length := by
    have := cntLe_le (Y.map fun y => pl.getD y 0) (pl.getD x 0)
    rwa [List.length_map] at this
  generalize cntLe (Y.map fun y => pl.getD y 0) (pl.getD x 0) = t at s1 s2 htl ⊢
  have t1 : ∀ i (hi : i < Y.length), i < t → Y[i] ≤ x := fun i hi hit => by
    have hm : Y[i] ∈ Y.take t := by
      refine List.mem_of_getElem? (i := i) ?_
      rw [List.getElem?_take, if_pos hit, List.getElem?_eq_getElem hi]
    rw [← List.map_take] at s1
    exact (T.le_iff (h9 _ (List.getElem_mem hi)) hx).mp (s1 _ (List.mem_map.mpr ⟨_, hm, rfl⟩))
  have t2 : ∀ i (hi : i < Y.length), t ≤ i → x < Y[i] := fun i hi hit => by
    have hm : Y[i] ∈ Y.drop t := by
      refine List.mem_of_getElem? (i := i - t) ?_
      rw [List.getElem?_drop, show t + (i - t) = i by omega, List.getElem?_eq_getElem hi]
    rw [← List.map_drop] at s2
    exact (T.lt_iff hx (h9 _ (List.getElem_mem hi))).mp (s2 _ (List.mem_map.mpr ⟨_, hm, rfl⟩))
  have hidx := List.pairwise_iff_getElem.mp hY
  have hmono : ∀ i j (hi : i < Y.length) (hj : j < Y.length), i ≤ j → Y[i] ≤ Y[j] := fun i j hi hj h => by
    rcases Nat.lt_or_eq_of_le h with q | rfl
    · exact Nat.le_of_lt (hidx i j hi hj q)
    · exact Nat.le_refl _
  unfold nearF
  generalize hL : (pickV Y (some (t - 1)) (some (t + 1))).map (fun y => ((comm pl en x y : Nat) : Int)) = L
  obtain ⟨m1, m2, m3⟩ := maxOf_from L (-1)
  refine ⟨m2, fun h0 => ?_, fun p ha hpy => ?_⟩
  · have hm : maxOf L ∈ L := by
      rcases m1 with m1 | m1
      · have : maxOf L = -1 := m1
        omega
      · exact m1
    rw [← hL] at hm
    obtain ⟨y, hy, e⟩ := List.mem_map.mp hm
    have hyY := mem_pick hy
    obtain ⟨c1, c2, _⟩ := comm_is hp T hx (h9 y hyY)
    have e2 : (maxOf L).toNat = comm pl en x y := by rw [← hL, ← e]; exact Int.toNat_natCast _
    rw [hL] at e
    rw [e2]
    exact ⟨c1, y, hyY, c2⟩
  · obtain ⟨y, hyY, hpy⟩ := hpy
    obtain ⟨i, hi, rfl⟩ := List.getElem_of_mem hyY
    have fin : ∀ j (hj : j < Y.length), t - 1 ≤ j → j < t + 1 → Anc par p Y[j] → (p : Int) ≤ maxOf L := fun j hj a b hpj => by
      have hm : ((comm pl en x Y[j] : Nat) : Int) ∈ L := by
        rw [← hL]; exact List.mem_map.mpr ⟨_, pick_mem hj a b, rfl⟩
      have h1 := m3 _ hm
      have h2 := (comm_is hp T hx (h9 _ (List.getElem_mem hj))).2.2 p ha hpj
      have : maxOf L = L.foldl max (-1) := rfl
      omega
    by_cases hit : i < t
    · have hj : t - 1 < Y.length := by omega
      refine fin (t - 1) hj (Nat.le_refl _) (by omega) ?_
      have := hmono i (t - 1) hi hj (by omega)
      have := hpy.1
      exact ha.mid (by omega) (t1 (t - 1) hj (by omega))
    · have hj : t < Y.length := by omega
      refine fin t hj (by omega) (by omega) ?_
      have := t2 t hj (Nat.le_refl _)
      have := ha.1
      exact hpy.mid (by omega) (hmono t i hj hi (by omega))
end
/- P10 -/
section
variable {par pl en : List Int}
/-- the elements with a word, in order -/
noncomputable def ofKind (Wc : List Nat) (c : Nat) : List Nat := (List.range' 0 9).filter fun j => decide (Wc.getD j 0 % 4 = c)
noncomputable def rowOf (pl : List Int) (Wc : List Nat) (c : Nat) : List Int := (ofKind Wc c).map fun y => pl.getD y 0
theorem ofKind_lt (Wc : List Nat) (c : Nat) : ∀ y ∈ ofKind Wc c, y < 9 := fun y hy => by
  have := List.mem_range'.mp (List.mem_filter.mp hy).1
  omega
theorem ofKind_inc (Wc : List Nat) (c : Nat) : (ofKind Wc c).Pairwise (· < ·) := List.Pairwise.filter _ List.pairwise_lt_range'
theorem mem_ofKind {Wc : List Nat} {c y : Nat} : y ∈ ofKind Wc c ↔ y < 9 ∧ Wc.getD y 0 % 4 = c := by
  unfold ofKind
  rw [List.mem_filter, decide_eq_true_eq, List.mem_range']
  constructor
  · rintro ⟨⟨i, hi, rfl⟩, h⟩; exact ⟨by omega, h⟩
  · rintro ⟨h1, h2⟩; exact ⟨⟨y, h1, by omega⟩, h2⟩
theorem ofKind_len (Wc : List Nat) (c : Nat) : (ofKind Wc c).length ≤ 9 := by
  refine Nat.le_trans (List.length_filter_le _ _) ?_
  simp
theorem row_sorted (T : Told par pl en) (Wc : List Nat) (c : Nat) : (rowOf pl Wc c).Pairwise (· ≤ ·) := by
  unfold rowOf
  rw [List.pairwise_map]
  exact (ofKind_inc Wc c).imp_of_mem fun {a b} ha hb hab => Int.le_of_lt (T.inc a b hab (ofKind_lt Wc c b hb))
theorem pl_sorted (T : Told par pl en) : pl.Pairwise (· ≤ ·) := by
  rw [List.pairwise_iff_getElem]
  intro i j hi hj hij
  have := T.inc i j hij (by rw [← T.lp]; exact hj)
  rw [List.getD_eq_getElem?_getD, List.getD_eq_getElem?_getD, List.getElem?_eq_getElem hi, List.getElem?_eq_getElem hj] at this
  exact Int.le_of_lt this
theorem getD_of {α : Type} {l : List α} {i : Nat} (hi : i < l.length) (d : α) : l.getD i d = l[i] := by
  rw [List.getD_eq_getElem?_getD, List.getElem?_eq_getElem hi]; rfl
theorem cnt_own (T : Told par pl en) {y : Nat} (hy : y < 9) : cntLe pl (pl.getD y 0) = y + 1 := by
  refine cntLe_of (by rw [T.lp]; exact hy) (fun i hi h => ?_) (fun i hi h => ?_)
  · rw [← getD_of hi 0]
    exact (T.le_iff (by rw [← T.lp]; exact hi) hy).mpr (by omega)
  · rw [← getD_of hi 0]
    exact (T.lt_iff hy (by rw [← T.lp]; exact hi)).mpr (by omega)
theorem who_own (T : Told par pl en) (Wc : List Nat) (c : Nat) : whoF pl (rowOf pl Wc c) = ofKind Wc c := by
  unfold whoF rowOf
  rw [List.map_map]
  conv => rhs; rw [← List.map_id (ofKind Wc c)]
  apply List.map_congr_left
  intro y hy
  show cntLe pl (pl.getD y 0) - 1 = y
  rw [cnt_own T (ofKind_lt Wc c y hy)]; omega
theorem near_kind (hp : Pre par) (T : Told par pl en) (Wc : List Nat) (c : Nat) {x : Nat} (hx : x < 9) :
    Deep par (KindIn par Wc c) x (nearF pl en x (whoF pl (rowOf pl Wc c)) (cntLe (rowOf pl Wc c) (pl.getD x 0))) := by
  rw [who_own T]
  have D := near_deep hp T (ofKind_inc Wc c) (ofKind_lt Wc c) hx
  have e : ∀ p, (∃ y, y ∈ ofKind Wc c ∧ Anc par p y) ↔ KindIn par Wc c p := fun p =>
    ⟨fun ⟨y, hy, ha⟩ => ⟨y, (mem_ofKind.mp hy).1, ha, (mem_ofKind.mp hy).2⟩, fun ⟨y, h9, ha, hc⟩ => ⟨y, mem_ofKind.mpr ⟨h9, hc⟩, ha⟩⟩
  exact ⟨D.low, fun h => ⟨(D.is h).1, (e _).mp (D.is h).2⟩, fun p ha hk => D.top p ha ((e p).mpr hk)⟩
noncomputable def rowsOf (pl : List Int) (Wc : List Nat) : List (List Int) := [rowOf pl Wc 0, rowOf pl Wc 1, rowOf pl Wc 2]
theorem partX_deep (hp : Pre par) (T : Told par pl en) (Wc : List Nat) {x : Nat} (hx : x < 9) : Deep par (Whole par Wc) x (partX pl en pl (rowsOf pl Wc) x) := by
  have D0 := near_kind hp T Wc 0 hx
  have D1 := near_kind hp T Wc 1 hx
  have D2 := near_kind hp T Wc 2 hx
  unfold partX
  show Deep par (Whole par Wc) x (min (nearF pl en x (whoF pl (rowOf pl Wc 0)) (cntLe (rowOf pl Wc 0) (pl.getD x 0))) (min (nearF pl en x (whoF pl (rowOf pl Wc 1)) (cntLe (rowOf pl Wc 1) (pl.getD x 0))) (nearF pl en x (whoF pl (rowOf pl Wc 2)) (cntLe (rowOf pl Wc 2) (pl.getD x 0)))))
  generalize nearF pl en x (whoF pl (rowOf pl Wc 0)) (cntLe (rowOf pl Wc 0) (pl.getD x 0)) = n0 at *
  generalize nearF pl en x (whoF pl (rowOf pl Wc 1)) (cntLe (rowOf pl Wc 1) (pl.getD x 0)) = n1 at *
  generalize nearF pl en x (whoF pl (rowOf pl Wc 2)) (cntLe (rowOf pl Wc 2) (pl.getD x 0)) = n2 at *
  generalize hM : min n0 (min n1 n2) = M
  have m0 : M ≤ n0 := by omega
  have m1 : M ≤ n1 := by omega
  have m2 : M ≤ n2 := by omega
  have hc : M = n0 ∨ M = n1 ∨ M = n2 := by omega
  refine ⟨by have := D0.low; have := D1.low; have := D2.low; omega, fun h0 => ?_, fun p ha hw => ?_⟩
  · have hMx : Anc par M.toNat x := by
      rcases hc with rfl | rfl | rfl
      · exact (D0.is h0).1
      · exact (D1.is h0).1
      · exact (D2.is h0).1
    have g : ∀ {n : Int} {c : Nat}, M ≤ n → Deep par (KindIn par Wc c) x n → KindIn par Wc c M.toNat := fun {n c} h D => by
      obtain ⟨a, b⟩ := D.is (by omega)
      exact b.upward (hMx.mid (by omega) a.1)
    exact ⟨hMx, g m0 D0, g m1 D1, g m2 D2⟩
  · have := D0.top p ha hw.1
    have := D1.top p ha hw.2.1
    have := D2.top p ha hw.2.2
    omega
theorem partX_is (hp : Pre par) (T : Told par pl en) {Wc : List Nat} (lW : Wc.length = 9) (hW : ∀ c ∈ Wc, c < 8) {x : Nat} (hx : x < 9) : partX pl en pl (rowsOf pl Wc) x = partOf par (wholeF par Wc) x := by
  refine (partX_deep hp T Wc hx).unique ?_
  have D := part_deep hp (wh := wholeF par Wc) hx
  refine ⟨D.low, fun h => ⟨(D.is h).1, ((mem_whole hp lW hW _).mp (D.is h).2).2⟩, fun p ha hw => D.top p ha ((mem_whole hp lW hW _).mpr ⟨by have := ha.1; omega, hw⟩)⟩
theorem part_range (hp : Pre par) {wh : List Nat} {x : Nat} (hx : x < 9) : -1 ≤ partOf par wh x ∧ partOf par wh x < 9 := by
  have D := part_deep hp (wh := wh) hx
  refine ⟨D.low, ?_⟩
  by_cases h : 0 ≤ partOf par wh x
  · have := (D.is h).1.1; omega
  · omega
/-- what has tells -/
noncomputable def hasF (xs : List Int) (place e : Int) : Bool := match (xs.drop (cntLt xs place)).head? with | none => false | some y => decide (y < e)
theorem has_iff (hp : Pre par) (T : Told par pl en) (Wc : List Nat) (c : Nat) {k : Nat} (hk : k < 9) : hasF (rowOf pl Wc c) (pl.getD k 0) (en.getD k 0) = true ↔ KindIn par Wc c k := by
  obtain ⟨t, ht, h1, h2⟩ : ∃ t, t ≤ (ofKind Wc c).length ∧ (∀ i (hi : i < (ofKind Wc c).length), i < t → (ofKind Wc c)[i] < k) ∧ (∀ i (hi : i < (ofKind Wc c).length), t ≤ i → k ≤ (ofKind Wc c)[i]) := by
    have hi := ofKind_inc Wc c
    generalize ofKind Wc c = Y at hi
    induction Y with
    | nil => exact ⟨0, Nat.le_refl _, fun i hi => absurd hi (Nat.not_lt_zero i), fun i hi => absurd hi (Nat.not_lt_zero i)⟩
    | cons y r ih =>
      obtain ⟨a, b⟩ := List.pairwise_cons.mp hi
      by_cases hy : y < k
      · obtain ⟨t, h0, h1, h2⟩ := ih b
        refine ⟨t + 1, Nat.succ_le_succ h0, fun i hi hit => ?_, fun i hi hit => ?_⟩
        · cases i with
          | zero => exact hy
          | succ i => exact h1 i (Nat.lt_of_succ_lt_succ hi) (by omega)
        · cases i with
          | zero => omega
          | succ i => exact h2 i (Nat.lt_of_succ_lt_succ hi) (by omega)
      · refine ⟨0, Nat.zero_le _, fun i hi hit => by omega, fun i hi hit => ?_⟩
        cases i with
        | zero => exact Nat.not_lt.mp hy
        | succ i =>
          have := a _ (List.getElem_mem (Nat.lt_of_succ_lt_succ hi))
          rw [List.getElem_cons_succ]
          omega
  have hlen : (rowOf pl Wc c).length = (ofKind Wc c).length := by unfold rowOf; rw [List.length_map]
  have hget : ∀ i (hi : i < (rowOf pl Wc c).length), (rowOf pl Wc c)[i] = pl.getD ((ofKind Wc c)[i]'(by rw [← hlen]; exact hi)) 0 := fun i hi => by
    exact List.getElem_map (fun y => pl.getD y 0)
  have h9 : ∀ i (hi : i < (ofKind Wc c).length), (ofKind Wc c)[i] < 9 := fun i hi => ofKind_lt Wc c _ (List.getElem_mem hi)
  have hcnt : cntLt (rowOf pl Wc c) (pl.getD k 0) = t := by
    refine cntLt_of (by rw [hlen]; exact ht) (fun i hi hit => ?_) (fun i hi hit => ?_)
    · rw [hget i hi]; exact (T.lt_iff (h9 i (by omega)) hk).mpr (h1 i (by omega) hit)
    · rw [hget i hi]; exact (T.le_iff hk (h9 i (by omega))).mpr (h2 i (by omega) hit)
  unfold hasF
  rw [hcnt, List.head?_drop]
  by_cases hl : t < (ofKind Wc c).length
  · rw [List.getElem?_eq_getElem (by rw [hlen]; exact hl), hget t (by rw [hlen]; exact hl)]
    show decide _ = true ↔ _
    rw [decide_eq_true_eq, T.in_iff (h2 t hl (Nat.le_refl _)) (h9 t hl)]
    constructor
    · intro ha
      exact ⟨_, h9 t hl, ha, (mem_ofKind.mp (List.getElem_mem hl)).2⟩
    · rintro ⟨y, hy9, ha, hyc⟩
      obtain ⟨i, hi, e⟩ := List.getElem_of_mem (mem_ofKind.mpr ⟨hy9, hyc⟩)
      have hti : t ≤ i := by
        by_cases q : t ≤ i
        · exact q
        · have := h1 i hi (by omega)
          have := ha.1
          omega
      refine ha.mid (h2 t hl (Nat.le_refl _)) ?_
      rw [← e]
      rcases Nat.lt_or_eq_of_le hti with q | q
      · exact Nat.le_of_lt (List.pairwise_iff_getElem.mp (ofKind_inc Wc c) t i hl hi q)
      · subst q; exact Nat.le_refl _
  · rw [List.getElem?_eq_none (by rw [hlen]; omega)]
    constructor
    · intro h; cases h
    · rintro ⟨y, hy9, ha, hyc⟩
      obtain ⟨i, hi, e⟩ := List.getElem_of_mem (mem_ofKind.mpr ⟨hy9, hyc⟩)
      have := h1 i hi (by omega)
      have := ha.1
      omega
end
/- P13 -/
noncomputable def castL (l : List Nat) : List Int := l.map fun (n : Nat) => (n : Int)
theorem castL_getD (l : List Nat) (i : Nat) : (castL l).getD i 0 = (l.getD i 0 : Nat) := by
  unfold castL
  rw [List.getD_eq_getElem?_getD, List.getElem?_map, List.getD_eq_getElem?_getD]
  cases l[i]? <;> rfl
theorem told_of {par : List Int} {nmF : Nat → List Nat} {s : St} (R : Res par nmF 0 9 St0 s) (hb : s.at_ ≤ 1000000) : Told par (castL s.pl) (castL s.en) := by
  refine ⟨by unfold castL; rw [List.length_map]; exact R.lp, by unfold castL; rw [List.length_map]; exact R.le, fun x y h1 h2 => ?_, fun x h1 => ?_, fun x y h1 h2 ha => ?_, fun x y h1 h2 ha => ?_, fun x h1 => ?_⟩ <;> simp only [castL_getD]
  · exact Int.ofNat_lt.mpr (R.inc x y (Nat.zero_le _) h1 h2)
  · exact Int.ofNat_lt.mpr (R.ip x (Nat.zero_le _) h1).2.1
  · exact Int.ofNat_lt.mpr (R.inn x y (Nat.zero_le _) h1 h2 ha)
  · exact Int.ofNat_lt.mpr (R.out x y (Nat.zero_le _) h1 h2 ha)
  · have := R.ip x (Nat.zero_le _) h1
    omega
/-- a word as it is written -/
noncomputable def nameW (c : Nat) : List Nat := (wordOf c).flatMap (refOf (tabS 0))
noncomputable def hpOf (Wc wy : List Nat) (k : Nat) : List Nat := if wy.getD k 0 < 2 then (112 + k) :: 62 :: txOf (Wc.getD k 0) (wy.getD k 0) else [112 + k, 32, 118, 61, 34] ++ txOf (Wc.getD k 0) (wy.getD k 0) ++ [34, 62]
theorem hd_hp (Wc wy : List Nat) : hdOf Wc wy txOf = fun k => 60 :: hpOf Wc wy k := by
  funext k
  unfold hdOf headOf hpOf
  split <;> rfl
theorem tx_facts : ∀ c : Fin 8, ∀ w : Fin 4, txOf c.val w.val = nameW c.val ++ 32 :: (txOf c.val w.val).drop ((nameW c.val).length + 1) ∧ 60 ∉ txOf c.val w.val ∧ 32 ∉ nameW c.val ∧ 6 ≤ (txOf c.val w.val).length ∧ (txOf c.val w.val).length ≤ 180 := by decide +kernel
theorem piece_ok {Wc wy : List Nat} {k : Nat} (hk : k < 9) (hW : Wc.getD k 0 < 8) (hw : wy.getD k 0 < 4) : PieceOk (hpOf Wc wy) (fun k => nameW (Wc.getD k 0)) k ∧ 60 ∉ hpOf Wc wy k ∧ 6 ≤ (hpOf Wc wy k).length ∧ (hpOf Wc wy k).length ≤ 200 := by
  obtain ⟨f1, f2, f3, f4, f5⟩ := tx_facts ⟨_, hW⟩ ⟨_, hw⟩
  dsimp only at f1 f2 f3 f4 f5
  have e : hpOf Wc wy k = if wy.getD k 0 < 2 then (112 + k) :: 62 :: txOf (Wc.getD k 0) (wy.getD k 0) else [112 + k, 32, 118, 61, 34] ++ txOf (Wc.getD k 0) (wy.getD k 0) ++ [34, 62] := rfl
  generalize txOf (Wc.getD k 0) (wy.getD k 0) = t at *
  have hsp : ∀ r : List Nat, (splits 32 (t ++ r)).headD [] = nameW (Wc.getD k 0) := fun r => by
    rw [f1, List.append_assoc, List.cons_append, splits_cat f3]; rfl
  generalize hpOf Wc wy = hp at e ⊢
  by_cases hc : wy.getD k 0 < 2
  · rw [if_pos hc] at e
    have es : skipOf ((112 + k) :: 62 :: t) = 2 := rfl
    refine ⟨⟨?_, ?_, ?_⟩, ?_, ?_, ?_⟩
    · rw [e]
      intro h
      have := (List.cons.inj h).1
      omega
    · rw [e, es]; simp only [List.length_cons]; omega
    · rw [e, es]
      have := hsp []
      rw [List.append_nil] at this
      exact this
    · rw [e]
      intro h
      rcases List.mem_cons.mp h with h | h
      · omega
      · rcases List.mem_cons.mp h with h | h
        · omega
        · exact f2 h
    · rw [e]; simp only [List.length_cons]; omega
    · rw [e]; simp only [List.length_cons]; omega
  · rw [if_neg hc] at e
    have es : skipOf ([112 + k, 32, 118, 61, 34] ++ t ++ [34, 62]) = 5 := rfl
    refine ⟨⟨?_, ?_, ?_⟩, ?_, ?_, ?_⟩
    · rw [e]
      intro h
      have := (List.cons.inj h).1
      omega
    · rw [e, es]; simp only [List.length_cons, List.length_append, List.length_nil]; omega
    · rw [e, es]
      exact hsp [34, 62]
    · rw [e]
      intro h
      simp only [List.mem_append, List.mem_cons, List.not_mem_nil, or_false] at h
      rcases h with (h | h) | h
      · omega
      · exact f2 h
      · omega
    · rw [e]; simp only [List.length_cons, List.length_append, List.length_nil]; omega
    · rw [e]; simp only [List.length_cons, List.length_append, List.length_nil]; omega
/-- all that reading a page comes to -/
theorem page_read {par : List Int} {Wc wy : List Nat} (hP : Pre par) (lW : Wc.length = 9) (hW : ∀ c ∈ Wc, c < 8) (lw : wy.length = 9) (hw : ∀ w ∈ wy, w < 4) :
    ∃ s, rdAll (toks par (hpOf Wc wy) 9 0) St0 = some s ∧ Told par (castL s.pl) (castL s.en) ∧ s.nm = Wc.map nameW ∧
      splits 60 (pageF par (hdOf Wc wy txOf) 9 0) = [] :: toks par (hpOf Wc wy) 9 0 ∧ (toks par (hpOf Wc wy) 9 0).length ≤ 60000 ∧ (pageF par (hdOf Wc wy txOf) 9 0).length ≤ 60000 ∧
      ∀ x ∈ toks par (hpOf Wc wy) 9 0, 2 ≤ x.length ∧ x.length ≤ 1000000 ∧ (x.take 1 ≠ [47] → 5 ≤ x.length) := by
  have hW' : ∀ k, k < 9 → Wc.getD k 0 < 8 := fun k hk => getD_lt hW (by omega)
  have hw' : ∀ k, k < 9 → wy.getD k 0 < 4 := fun k hk => getD_lt hw (by omega)
  have hok := fun k (hk : k < 9) => piece_ok hk (hW' k hk) (hw' k hk)
  obtain ⟨s, r, R⟩ := rd_page hP fun k hk => (hok k hk).1
  have epg : pageF par (hdOf Wc wy txOf) 9 0 = (toks par (hpOf Wc wy) 9 0).flatMap (fun p => 60 :: p) := by
    rw [hd_hp]; exact page_toks par (hpOf Wc wy) 9 0
  have hlen : (pageF par (hdOf Wc wy txOf) 9 0).length ≤ 51200 := by
    refine page_bound (fun j => ?_) 9 0
    have g1 : ∀ (l : List Nat) (m : Nat), 0 < m → (∀ c ∈ l, c < m) → l.getD j 0 < m := fun l m hm hl => by
      by_cases hj : j < l.length
      · exact getD_lt hl hj
      · rw [List.getD_eq_getElem?_getD, List.getElem?_eq_none (by omega)]; exact hm
    have h2 := (tx_facts ⟨_, g1 Wc 8 (by decide) hW⟩ ⟨_, g1 wy 4 (by decide) hw⟩).2.2.2.2
    dsimp only at h2
    unfold hdOf headOf
    split <;> simp only [List.length_append, List.length_cons, List.length_nil] <;> omega
  have hat := rd_at _ r
  rw [← epg] at hat
  have hat' : s.at_ ≤ 51200 := by rw [hat]; show 0 + _ ≤ _; omega
  have hfree : ∀ x ∈ toks par (hpOf Wc wy) 9 0, 60 ∉ x ∧ (2 ≤ x.length ∧ x.length ≤ 1000000 ∧ (x.take 1 ≠ [47] → 5 ≤ x.length)) := by
    refine toks_all (P := fun x => 60 ∉ x ∧ (2 ≤ x.length ∧ x.length ≤ 1000000 ∧ (x.take 1 ≠ [47] → 5 ≤ x.length))) (fun k hk => ?_) (fun k hk => ?_) 9 0 (by decide)
    · obtain ⟨_, a, b, c⟩ := hok k hk
      exact ⟨a, by omega, by omega, fun _ => by omega⟩
    · refine ⟨?_, by simp [clP], by simp [clP], fun h => absurd rfl h⟩
      intro h
      simp only [clP, List.mem_cons, List.not_mem_nil, or_false] at h
      omega
  refine ⟨s, r, told_of R (by omega), ?_, ?_, ?_, by omega, fun x hx => (hfree x hx).2⟩
  · refine List.ext_getElem (by rw [R.ln, List.length_map, lW]) fun i h1 h2 => ?_
    have hi : i < 9 := by rw [← R.ln]; exact h1
    have := R.nm i (Nat.zero_le _) hi
    rw [getD_of h1, getD_of (by omega)] at this
    rw [this, List.getElem_map]
  · rw [epg]
    exact splits_toks _ [] (by simp) fun p hp => (hfree p hp).1
  · have h1 : ∀ ps : List (List Nat), ps.length ≤ (ps.flatMap (fun p => 60 :: p)).length := fun ps => by
      induction ps with
      | nil => simp
      | cons p r ih => rw [List.flatMap_cons, List.length_append, List.length_cons, List.length_cons]; omega
    have := h1 (toks par (hpOf Wc wy) 9 0)
    rw [← epg] at this
    omega
/- P14 -/
/-- the order in which the names are laid -/
noncomputable def tuF (turn : Int) (j : Nat) : Nat := ((4 * (j : Int) + turn).fmod 9).toNat
noncomputable def tuL (turn : Int) : List Nat := (List.range' 0 9).map (tuF turn)
theorem tu_val (turn : Int) (j : Nat) : (4 * (j : Int) + turn).fmod 9 = (tuF turn j : Int) ∧ tuF turn j < 9 := by
  unfold tuF
  rw [Int.fmod_eq_emod_of_nonneg _ (by decide)]
  omega
theorem tu_perm (turn : Int) : (tuL turn).Perm (List.range' 0 9) := by
  have key : ∀ t : Fin 9, ((List.range' 0 9).map fun j => (4 * j + t.val) % 9).Perm (List.range' 0 9) := by decide +kernel
  have ht : (turn % 9).toNat < 9 := by
    have := Int.emod_nonneg turn (show (9 : Int) ≠ 0 by decide)
    have := Int.emod_lt_of_pos turn (show (0 : Int) < 9 by decide)
    omega
  have e : tuL turn = (List.range' 0 9).map fun j => (4 * j + (turn % 9).toNat) % 9 := by
    unfold tuL
    apply List.map_congr_left
    intro j _
    unfold tuF
    rw [Int.fmod_eq_emod_of_nonneg _ (by decide)]
    omega
  rw [e]
  exact key ⟨_, ht⟩
theorem tu_lt (turn : Int) : ∀ j ∈ tuL turn, j < 9 := fun j hj => by
  obtain ⟨i, _, rfl⟩ := List.mem_map.mp hj
  exact (tu_val turn i).2
section
variable {par pl en : List Int}
theorem rows_sorted (T : Told par pl en) (turn : Int) (Wc : List Nat) (c : Nat) : insAll (((tuL turn).filter fun j => decide (Wc.getD j 0 % 4 = c)).map fun j => pl.getD j 0) = rowOf pl Wc c := by
  refine sorted_unique (insAll_sorted _) (row_sorted T Wc c) ((insAll_perm _).trans ?_)
  exact ((tu_perm turn).filter _).map _
theorem map_getD {α : Type} (l : List α) (d : α) (h : l.length = 9) : ((List.range' 0 9).map fun j => l.getD j d) = l := by
  refine List.ext_getElem (by simp [h]) fun i h1 h2 => ?_
  rw [List.getElem_map, List.getElem_range', getD_of (by omega)]
  congr 1
  omega
theorem opens_sorted (T : Told par pl en) (turn : Int) : insAll ((tuL turn).map fun j => pl.getD j 0) = pl := by
  refine sorted_unique (insAll_sorted _) (pl_sorted T) ((insAll_perm _).trans ?_)
  have := (tu_perm turn).map fun j => pl.getD j 0
  rwa [map_getD pl 0 T.lp] at this
/- names in one size -/
theorem name_kind : ∀ c : Fin 8, ∀ d : Fin 4, ((nameW c.val).map lowC = (nameW (d.val + 4)).map lowC ↔ c.val % 4 = d.val) := by decide +kernel
theorem name_facts : ∀ c : Fin 8, (∀ x ∈ nameW c.val, 32 ≤ x ∧ x < 127) ∧ (nameW c.val).length ≤ 100 ∧ (∀ w : Fin 4, (wordOf c.val).flatMap (refOf (tabS w.val)) = nameW c.val ∧ escs (tabOf w.val) (wordOf c.val) = nameW c.val ∧ ∀ i : Fin 8, (escs ((tabOf w.val).take i.val) (wordOf c.val)).length ≤ 1000) := by decide +kernel
/- what is found -/
theorem found_filter {f : Nat → Int} {N : List (List Nat)} {k : Nat} (hk : k < 9) : ∀ l : List Nat, (∀ x ∈ l, f x < 9) → ((l.filterMap (foundAt f N)).filter fun q => decide (q.1.map lowC = [112 + k])).map (·.2) = (l.filter fun x => decide (f x = (k : Int))).map fun x => N.getD x []
  | [], _ => rfl
  | x :: r, h => by
    have ih := found_filter (f := f) (N := N) hk r fun y hy => h y (List.mem_cons_of_mem _ hy)
    have hx := h x List.mem_cons_self
    rw [List.filterMap_cons, List.filter_cons]
    unfold foundAt at ih ⊢
    by_cases h0 : 0 ≤ f x
    · rw [if_pos h0]
      dsimp only
      rw [List.filter_cons]
      have e : ((tagOf (f x).toNat x).map lowC = [112 + k]) ↔ f x = (k : Int) := by
        unfold tagOf
        split
        · show [lowC (112 + (f x).toNat)] = _ ↔ _
          unfold lowC
          rw [if_neg (by omega)]
          constructor
          · intro h; have := (List.cons.inj h).1; omega
          · intro h; congr 1; omega
        · show [lowC (80 + (f x).toNat)] = _ ↔ _
          unfold lowC
          rw [if_pos (by omega)]
          constructor
          · intro h; have := (List.cons.inj h).1; omega
          · intro h; congr 1; omega
      dsimp only
      by_cases hc : f x = (k : Int)
      · rw [if_pos (decide_eq_true (e.mpr hc)), if_pos (decide_eq_true hc), List.map_cons, List.map_cons, ih]
      · rw [if_neg (by simp [e, hc]), if_neg (by simp [hc]), ih]
    · rw [if_neg h0, if_neg (by simp; omega)]
      exact ih
theorem num_tag {n x : Nat} (h : n < 9) : numT (tagOf n x) = n := by
  unfold tagOf
  split
  · show lowC (112 + n) - 112 = n; unfold lowC; rw [if_neg (by omega)]; omega
  · show lowC (80 + n) - 112 = n; unfold lowC; rw [if_pos (by omega)]; omega
noncomputable def innerF (par : List Int) (wh : List Nat) : List Nat := wh.filter fun k => decide ((wh.filter fun j => decide (par.getD j 0 = (k : Int))) = [])
theorem found_least {f : Nat → Int} {N : List (List Nat)} {q : List Nat → Bool} {inn : List Nat} (h : ∀ x, x < 9 → 0 ≤ f x → (q (tagOf (f x).toNat x) = true ↔ (f x).toNat ∈ inn)) : ∀ l : List Nat, (∀ x ∈ l, x < 9) →
    ((l.filterMap (foundAt f N)).map (·.1)).filter q = (l.filter fun x => decide (f x ∈ inn.map fun (i : Nat) => (i : Int))).map fun x => tagOf (f x).toNat x
  | [], _ => rfl
  | x :: r, hl => by
    have ih := found_least (N := N) h r fun y hy => hl y (List.mem_cons_of_mem _ hy)
    have hx := hl x List.mem_cons_self
    rw [List.filterMap_cons, List.filter_cons]
    unfold foundAt at ih ⊢
    by_cases h0 : 0 ≤ f x
    · rw [if_pos h0]
      dsimp only
      rw [List.map_cons, List.filter_cons]
      dsimp only
      have e : f x ∈ inn.map (fun (i : Nat) => (i : Int)) ↔ (f x).toNat ∈ inn := mem_iv_nvs h0
      have e2 := h x hx h0
      by_cases hc : (f x).toNat ∈ inn
      · rw [if_pos (e2.mpr hc), if_pos (decide_eq_true (e.mpr hc)), List.map_cons, ih]
      · rw [if_neg (fun h => hc (e2.mp h)), if_neg (by simp only [decide_eq_true_eq]; exact fun h => hc (e.mp h)), ih]
    · rw [if_neg h0, if_neg]
      · exact ih
      · simp only [decide_eq_true_eq, List.mem_map]
        rintro ⟨i, _, e⟩
        omega
/-- the least of the parts that have all three -/
theorem least_is (hp : Pre par) (T : Told par pl en) {Wc : List Nat} (lW : Wc.length = 9) (hW : ∀ c ∈ Wc, c < 8) (N : List (List Nat)) {L : List (List Nat × List Nat)} (hL : L = (List.range' 0 9).filterMap (foundAt (partOf par (wholeF par Wc)) N)) :
    (L.map (·.1)).filter (keepF pl en (L.map (·.1))) = ((List.range' 0 9).filter fun x => decide (partOf par (wholeF par Wc) x ∈ (innerF par (wholeF par Wc)).map fun (i : Nat) => (i : Int))).map fun x => tagOf (partOf par (wholeF par Wc) x).toNat x := by
  have hmw := fun k => mem_whole hp lW hW k
  generalize hwh : wholeF par Wc = wh at *
  have hD : ∀ x, x < 9 → Deep par (· ∈ wh) x (partOf par wh x) := fun x hx => part_deep hp hx
  have h1 : ∀ x, x < 9 → 0 ≤ partOf par wh x → (partOf par wh x).toNat ∈ wh := fun x hx h => ((hD x hx).is h).2
  have h2 : ∀ k, k ∈ wh → partOf par wh k = (k : Int) := fun k hk => by
    have h9 := ((hmw k).mp hk).1
    have a := (hD k h9).top k (Anc.refl k) hk
    have b := ((hD k h9).is (by omega)).1.1
    omega
  -- the numbers of the names
  have hnum : ∀ j, j ∈ (L.map (·.1)).map numT ↔ j ∈ wh := by
    intro j
    rw [List.map_map, List.mem_map]
    constructor
    · rintro ⟨q, hq, rfl⟩
      rw [hL] at hq
      obtain ⟨x, hx, e⟩ := List.mem_filterMap.mp hq
      have hx9 : x < 9 := by have := List.mem_range'.mp hx; omega
      unfold foundAt at e
      split at e
      · rename_i h0
        cases e
        have hm := h1 x hx9 h0
        have := ((hmw _).mp hm).1
        show numT (tagOf _ x) ∈ wh
        rw [num_tag this]; exact hm
      · cases e
    · intro hj
      have h9 := ((hmw j).mp hj).1
      refine ⟨(tagOf j j, N.getD j []), ?_, num_tag h9⟩
      rw [hL]
      refine List.mem_filterMap.mpr ⟨j, List.mem_range'.mpr ⟨j, h9, by omega⟩, ?_⟩
      unfold foundAt
      rw [h2 j hj, if_pos (by omega), Int.toNat_natCast]
  have hfl := found_least (N := N) (f := partOf par wh) (q := keepF pl en (L.map (·.1))) (inn := innerF par wh) ?_ (List.range' 0 9) fun x hx => by have := List.mem_range'.mp hx; omega
  · rw [← hL] at hfl; exact hfl
  intro x hx h0
  have hm := h1 x hx h0
  generalize (partOf par wh x).toNat = n at hm
  have hn9 := ((hmw n).mp hm).1
  unfold keepF innerF
  rw [decide_eq_true_eq, num_tag hn9, List.mem_filter, decide_eq_true_eq, List.filter_eq_nil_iff]
  have ein : ∀ j, j < 9 → ((pl.getD n 0 < pl.getD j 0 ∧ pl.getD j 0 < en.getD n 0) ↔ (n < j ∧ Anc par n j)) := fun j hj => by
    rw [T.lt_iff hn9 hj]
    constructor
    · rintro ⟨a, b⟩; exact ⟨a, (T.in_iff (Nat.le_of_lt a) hj).mp b⟩
    · rintro ⟨a, b⟩; exact ⟨a, (T.in_iff (Nat.le_of_lt a) hj).mpr b⟩
  constructor
  · intro hk
    refine ⟨hm, fun j hj hpj => ?_⟩
    have hj9 := ((hmw j).mp hj).1
    rw [decide_eq_true_eq] at hpj
    have hj0 : 0 < j := by
      rcases Nat.eq_zero_or_pos j with e | e
      · rw [e, hp.zero] at hpj; omega
      · exact e
    have hlt := hp.hi j hj9
    have hu := Anc.up hp hj0 hj9
    have eu : Mine.up par j = n := by unfold Mine.up; rw [hpj]; exact Int.toNat_natCast n
    rw [eu] at hu
    exact hk j ((hnum j).mpr hj) ((ein j hj9).mpr ⟨by omega, hu⟩)
  · rintro ⟨_, hno⟩ j hj hc
    have hjw := (hnum j).mp hj
    obtain ⟨hj9, hwj⟩ := (hmw j).mp hjw
    obtain ⟨hlt, ha⟩ := (ein j hj9).mp hc
    obtain ⟨c, c1, c2, c3, c4⟩ := Anc.child hp j (Nat.le_refl _) ha hlt hj9
    exact hno c ((hmw c).mpr ⟨c2, hwj.upward c4⟩) (by rw [decide_eq_true_eq]; exact c3)
/-- the parts with all three, told by rows -/
theorem whole_has (hp : Pre par) (T : Told par pl en) {Wc : List Nat} (lW : Wc.length = 9) (hW : ∀ c ∈ Wc, c < 8) :
    (List.range' 0 9).filter (fun k => decide (((rowsOf pl Wc).filter fun row => !hasF row (pl.getD k 0) (en.getD k 0)) = [])) = wholeF par Wc := by
  unfold wholeF
  apply List.filter_congr
  intro k hk
  have hk9 : k < 9 := by have := List.mem_range'.mp hk; omega
  rw [Bool.eq_iff_iff, decide_eq_true_eq, has3_iff hp lW hW hk9, List.filter_eq_nil_iff]
  unfold rowsOf Whole
  have e : ∀ c, (¬ (!hasF (rowOf pl Wc c) (pl.getD k 0) (en.getD k 0)) = true) ↔ KindIn par Wc c k := fun c => by
    rw [← has_iff hp T Wc c hk9]
    cases hasF (rowOf pl Wc c) (pl.getD k 0) (en.getD k 0) <;> simp
  constructor
  · intro h
    exact ⟨(e 0).mp (h _ (by simp)), (e 1).mp (h _ (by simp)), (e 2).mp (h _ (by simp))⟩
  · rintro ⟨a, b, c⟩ row hr
    simp only [List.mem_cons, List.not_mem_nil, or_false] at hr
    rcases hr with rfl | rfl | rfl
    · exact (e 0).mpr a
    · exact (e 1).mpr b
    · exact (e 2).mpr c
end
/- F20 -/
theorem Sb.mid (X A B : AH) : Sb (A ++ (X ++ B)) (X ++ (A ++ B)) := Sb.perm (by
  rw [← List.append_assoc, ← List.append_assoc]
  exact (List.perm_append_comm (l₁ := X) (l₂ := A)).append_right B)
theorem nvs_castL (l : List Nat) : nvs l = iv (castL l) := nvs_iv l
theorem wordsv_getD {Wc : List Nat} {i : Nat} (h : i < Wc.length) : (Wc.map fun c => sv (wordOf c))[((i : Nat) : Int).toNat]? = some (sv (wordOf (Wc.getD i 0))) := by rw [Int.toNat_natCast]; exact wordv_getD h
theorem plain_of {l : List Nat} (h : (l.all fun c => decide (31 < c ∧ c < 127)) = true) : Plain l := fun c hc => by
  have := List.all_eq_true.mp h c hc
  simpa using this
theorem name_A : ∀ c : Fin 8, ((nameW c.val).map lowC = [65].map lowC ↔ lowW c.val = [97]) := by decide +kernel
theorem plain_low {l : List Nat} (h : Plain l) : Plain (l.map lowC) := fun c hc => by
  obtain ⟨x, hx, rfl⟩ := List.mem_map.mp hc
  have := h x hx
  unfold lowC
  split <;> omega
theorem name_same : ∀ c d : Fin 8, ((nameW c.val).map lowC = (nameW d.val).map lowC ↔ c.val % 4 = d.val % 4) := by decide +kernel
theorem filterMap_same {α β : Type} {f h : α → Option β} : ∀ {l : List α}, (∀ x ∈ l, f x = h x) → l.filterMap f = l.filterMap h
  | [], _ => rfl
  | x :: r, e => by rw [List.filterMap_cons, List.filterMap_cons, e x List.mem_cons_self, filterMap_same fun y hy => e y (List.mem_cons_of_mem _ hy)]
theorem both_mem {γ δ : Type} {R : Value → γ → Prop} {f : δ → Value} {e : δ → γ} {cs : List δ} (h : ∀ c ∈ cs, R (f c) (e c)) : Both R (cs.map f) (cs.map e) := by
  refine ⟨by simp, fun i x c hx hc => ?_⟩
  rw [List.getElem?_map] at hx hc
  cases hi : cs[i]? with
  | none => rw [hi] at hx; cases hx
  | some d =>
    rw [hi] at hx hc
    cases hx
    cases hc
    exact h d (List.mem_of_getElem? hi)
noncomputable def tagK (k : Nat) : Nat := if k % 2 = 0 then 80 + k else 112 + k
theorem tagK_at {i : Nat} (hi : i < 9) : ([80, 113, 82, 115, 84, 117, 86, 119, 88] : List Nat)[i]? = some (tagK i) :=
  (by decide : ∀ c : Fin 9, ([80, 113, 82, 115, 84, 117, 86, 119, 88] : List Nat)[c.val]? = some (tagK c.val)) ⟨i, hi⟩
theorem tagK_low {k : Nat} (hk : k < 9) : [tagK k].map lowC = [112 + k] := (by decide : ∀ c : Fin 9, [tagK c.val].map lowC = [112 + c.val]) ⟨k, hk⟩
theorem tagK_plain {k : Nat} (hk : k < 9) : Plain [tagK k] ∧ Plain ([tagK k].map lowC) :=
  let ⟨a, b⟩ := (by decide : ∀ c : Fin 9, ([tagK c.val].all fun c => decide (31 < c ∧ c < 127)) = true ∧ (([tagK c.val].map lowC).all fun c => decide (31 < c ∧ c < 127)) = true) ⟨k, hk⟩
  ⟨plain_of a, plain_of b⟩
theorem both_rows {g : Gh} {σ : AH} {ws : List Addr} {G : Nat → List (List Nat)} {n : Nat} (hl : ws.length = n) (h : ∀ j, j < n → Rd g σ (ws.getD j 0) (.list ((G j).map sv))) : Both (RL g σ RS) (ws.map .ref) ((List.range' 0 n).map G) := by
  refine ⟨by simp [hl], fun i x c hx hc => ?_⟩
  have hi : i < n := by have := (List.getElem?_eq_some_iff.mp hx).1; rw [List.length_map] at this; omega
  rw [List.getElem?_map, List.getElem?_eq_getElem (by omega)] at hx
  rw [List.getElem?_map, List.getElem?_eq_getElem (by simpa using hi), List.getElem_range'] at hc
  cases hx
  cases hc
  have e1 : 0 + 1 * i = i := by omega
  have := h i hi
  rw [getD_of (by omega)] at this
  exact ⟨_, _, rfl, by rw [e1]; exact this, both_sv _⟩
theorem get_named {ts : HT} {tu : List Nat} {N : List (List Nat)} {P : List Int} {n : List Nat} {q : Nat → Bool} (hts : ts.map (·.2) = tu.map (rowAt N P)) (h : ∀ j ∈ tu, decide ((N.getD j []).map lowC = n.map lowC) = q j) :
    ((ts.filter fun t => decide (t.2.1.map lowC = n.map lowC)).map fun t => sv t.2.2) = ((tu.filter q).map fun j => dig (P.getD j 0)).map sv := by
  have e1 : ((ts.filter fun t => decide (t.2.1.map lowC = n.map lowC)).map fun t => sv t.2.2) = ((ts.map (·.2)).filter fun r => decide (r.1.map lowC = n.map lowC)).map fun r => sv r.2 := by
    rw [List.filter_map, List.map_map]; rfl
  rw [e1, hts, List.filter_map, List.map_map, List.map_map]
  have e2 : tu.filter ((fun r : List Nat × List Nat => decide (r.1.map lowC = n.map lowC)) ∘ rowAt N P) = tu.filter q := List.filter_congr h
  rw [e2]
  rfl
theorem rows_plain {ts : HT} {tu : List Nat} {N : List (List Nat)} {P : List Int} (hts : ts.map (·.2) = tu.map (rowAt N P)) (h9 : ∀ j ∈ tu, j < 9) (lN : N.length = 9) (hN : ∀ n ∈ N, Plain n ∧ n.length ≤ 1000) : ∀ t ∈ ts, Plain t.2.1 ∧ t.2.1.length ≤ 1000 := by
  intro t ht
  have hm : t.2 ∈ ts.map (·.2) := List.mem_map.mpr ⟨t, ht, rfl⟩
  rw [hts] at hm
  obtain ⟨j, hj, e⟩ := List.mem_map.mp hm
  have e1 : t.2.1 = N.getD j [] := by rw [← e]; rfl
  rw [e1, getD_of (by rw [lN]; exact h9 j hj)]
  exact hN _ (List.getElem_mem _)
theorem law_ck {p : P0} {σ : AH} {a : Addr} {s : List Int} (hr : Rd (gh p) σ a (.list (iv s))) (hl : s.length ≤ 63) : CK (gh p) 30 (.ref 346) [.ref a] [] (fun v _ => v = .bool true) σ := by
  refine CK.enter (wr := ["lefts", "words", "ways", "places", "ends", "turn", "index", "rows", "found", "whole", "parts", "dressed", "inner"]) (by rfl) (by kernel_rfl) (by rfl) (by rfl) (by rfl) (by rfl) ?_
  intro args kw h hk
  obtain ⟨a1, rfl, h1⟩ := args1 h
  cases List.map_eq_nil_iff.mp hk
  refine C.binds (binds := [("script", a1)]) (by rfl) ⟨by rfl, ?_⟩
  dsimp only [erB, List.map]
  rw [h1]
  intro env he
  refine WX.assignTup ?_ (by rfl) (by rfl)
  repeat kt_at_item
  refine drawn_ck hr hl ?_
  intro T dl dw dy par Wc wy σ1 hP lW hW lw hw up1
  obtain ⟨sN, hrd, hT, hN, hspl, hpl1, hpl2, hpcs⟩ := page_read hP lW hW lw hw
  refine GenE ((T, AO.tup [Value.ref dl, .ref dw, .ref dy]) :: (DD dl dw dy par Wc wy ++ σ1)) ?_
  intro S2 hS2
  have hT2 : Rd (gh p) S2 T (.tup [.ref dl, .ref dw, .ref dy]) := by rw [← hS2]; exact .inl List.mem_cons_self
  have hl2 : Rd (gh p) S2 dl (.list (iv par)) := by rw [← hS2]; exact .inl (by simp [DD])
  have hw2 : Rd (gh p) S2 dw (.list (Wc.map fun c => sv (wordOf c))) := by rw [← hS2]; exact .inl (by simp [DD])
  have hy2 : Rd (gh p) S2 dy (.list (nvs wy)) := by rw [← hS2]; exact .inl (by simp [DD])
  have ha2 : Rd (gh p) S2 a (.list (iv s)) := by
    rw [← hS2]; exact hr.up ((up1.trans (List.sublist_append_right _ _)).trans (List.sublist_cons_self _ _))
  clear hS2 hr up1
  refine WG.tuple hT2 (by rfl) (by rfl) ?_
  refine WG.cell (kind_of he (by rfl)) (by decide) (WG.cell (kind_of he (by rfl)) (by decide) (WG.cell (kind_of he (by rfl)) (by decide) ?_))
  dsimp only [WGs]
  repeat kt_at_item
  refine CK.more (page_ck (hand_spells p) hP.len lW hW lw hw 9 0 0 S2 _ hl2 hw2 hy2 (by decide) (by decide) ?_) (by decide)
  revert hspl hpl2
  refine GenE (pageF par (hdOf Wc wy txOf) 9 0) ?_
  intro pg hpg hspl hpl2
  repeat kt_at_item
  refine CK.more (page_ck (spelled_spells p) hP.len lW hW lw hw 9 0 0 S2 _ hl2 hw2 hy2 (by decide) (by decide) ?_) (by decide)
  rw [hpg]
  repeat kt_at_item
  refine ifF (by rw [decide_eq_true rfl]; rfl) ?_
  repeat kt_at_item
  refine WX.assignTup ?_ (by rfl) (by rfl)
  repeat kt_at_item
  refine CK.more (read_ck (k := 0) (by omega) hspl hpl1 hpcs hrd ?_) (by decide)
  intro T3 dp de dn σ3 up3
  have eP := nvs_castL sN.pl
  have eE := nvs_castL sN.en
  revert hT eP
  refine GenE (castL sN.pl) ?_
  intro P hPP hT eP
  revert hT eE
  refine GenE (castL sN.en) ?_
  intro E hEE eE hT
  refine GenE ((T3, AO.tup [Value.ref dp, .ref de, .ref dn]) :: (RL3 dp de dn sN ++ σ3)) ?_
  intro S3 hS3
  have up23 : S2.Sublist S3 := by rw [← hS3]; exact (up3.trans (List.sublist_append_right _ _)).trans (List.sublist_cons_self _ _)
  have hT3 : Rd (gh p) S3 T3 (.tup [.ref dp, .ref de, .ref dn]) := by rw [← hS3]; exact .inl List.mem_cons_self
  have hp3 : Rd (gh p) S3 dp (.list (iv P)) := by rw [← hS3, ← eP]; exact .inl (by simp [RL3])
  have he3 : Rd (gh p) S3 de (.list (iv E)) := by rw [← hS3, ← eE]; exact .inl (by simp [RL3])
  have hn3 : Rd (gh p) S3 dn (.list ((Wc.map nameW).map sv)) := by rw [← hS3, ← hN]; exact .inl (by simp [RL3])
  have hl3 := hl2.up up23
  have hw3 := hw2.up up23
  have hy3 := hy2.up up23
  have ha3 := ha2.up up23
  clear hS3 hl2 hw2 hy2 ha2 hT2 hrd hspl hpl1 hpl2 hpcs hpg eP eE hPP hEE hN up23 up3
  refine WG.tuple hT3 (by rfl) (by rfl) ?_
  refine WG.cell (kind_of he (by rfl)) (by decide) (WG.cell (kind_of he (by rfl)) (by decide) (WG.local (kind_of he (by rfl)) ?_))
  dsimp only [WGs]
  refine WX.le (M := [("names", .ref dn), ("ends", .ref de), ("places", .ref dp), ("ways", .ref dy), ("words", .ref dw), ("lefts", .ref dl), ("script", .ref a)]) (by kt_at_in) ?_
  clear hT3
  repeat kt_at_item
  refine CK.sumL (xs := s) ha3 ?_
  repeat kt_at_item
  refine Gen0 (s.sum) ?_
  intro turn
  refine WX.asgComp he (nvs (List.range' 0 9)) (fun _ _ => True) (fun _ i ys σ' => σ' = S3 ∧ ys = nvs (((List.range' 0 9).take i).map (tuF turn))) [("turn", .int turn 0)] (kind_of he (by rfl)) (by rfl) (by rfl) (by rfl) (by simp [nvs]) (by kt_at_in) ?_ (fun _ _ _ _ _ => trivial) ?_ (by intro _; rfl)
  rotate_left
  · rintro xv cenv hce i v ys σ' hv ⟨rfl, rfl⟩
    obtain ⟨hi, hv'⟩ := nvs_at hv
    rw [range'_get hi, Nat.zero_add] at hv'
    subst hv'
    refine WG.local (kind_of hce (by rfl)) ?_
    simp only [WTs, if_true]
    repeat kt_at_item
    refine BO.mulInt (IntMulOk.of_left (by decide)) ?_
    repeat kt_at_item
    refine ⟨⟨rfl, ?_⟩, by kt_at_in⟩
    rw [(tu_val turn i).1, List.take_succ_eq_append_getElem hi, List.map_append, range'_get hi, Nat.zero_add]
    simp [nvs]
  repeat kt_at_item
  refine CK.range1 fun R o ho => ?_
  refine ⟨It.rangeN (a := 0) (b := 9) (by decide) (by decide) List.mem_cons_self ho (fun _ _ => trivial), ⟨_, List.sublist_cons_self _ _, rfl, rfl⟩, by kt_at_in, ?_⟩
  rintro ys σ' dt ⟨e1, rfl⟩
  rw [e1]
  clear e1
  have etu : ((List.range' 0 9).take (nvs (List.range' 0 9)).length).map (tuF turn) = tuL turn := by
    rw [List.take_of_length_le (by simp [nvs])]; rfl
  rw [etu]
  have lN : (Wc.map nameW).length = 9 := by rw [List.length_map, lW]
  have hWk : ∀ k, k < 9 → Wc.getD k 0 < 8 := fun k hk => getD_lt hW (by omega)
  have hNk : ∀ k, k < 9 → (Wc.map nameW).getD k [] = nameW (Wc.getD k 0) := fun k hk => by
    rw [getD_of (by omega), List.getElem_map, getD_of (by omega)]
  have hNf : ∀ n ∈ Wc.map nameW, Plain n ∧ n.length ≤ 1000 := fun n hn => by
    obtain ⟨c, hc, rfl⟩ := List.mem_map.mp hn
    have := name_facts ⟨c, hW c hc⟩
    exact ⟨this.1, by have := this.2.1; dsimp only at this; omega⟩
  have hPb : ∀ i ∈ P, 0 ≤ i ∧ i < 10 ^ 10 := fun i hi => by
    obtain ⟨j, hj, rfl⟩ := List.getElem_of_mem hi
    have := hT.nn j (by rw [← hT.lp]; exact hj)
    rwa [getD_of hj] at this
  have hPk : ∀ k, k < 9 → 0 ≤ P.getD k 0 ∧ P.getD k 0 < 10 ^ 10 := hT.nn
  have ltu : (tuL turn).length = 9 := by simp [tuL]
  repeat kt_at_item
  refine CK.more (index_ck (k := 0) (hn3.up (List.sublist_cons_self _ _)) (hp3.up (List.sublist_cons_self _ _)) (.inl List.mem_cons_self) lN hT.lp (by omega) (tu_lt turn) hNf hPb ?_) (by decide)
  intro ix ixd idd ts hts
  have lts : ts.length = 9 := by
    have := congrArg List.length hts
    rwa [List.length_map, List.length_map, ltu] at this
  have htsf := rows_plain hts (tu_lt turn) lN hNf
  refine GenE ((dt, AO.list (nvs (tuL turn))) :: S3) ?_
  intro S4 hS4
  have up34 : S3.Sublist S4 := by rw [← hS4]; exact List.sublist_cons_self _ _
  have ht4 : Rd (gh p) S4 dt (.list (nvs (tuL turn))) := by rw [← hS4]; exact .inl List.mem_cons_self
  have hp4 := hp3.up up34
  have he4 := he3.up up34
  have hn4 := hn3.up up34
  have hl4 := hl3.up up34
  have hw4 := hw3.up up34
  have hy4 := hy3.up up34
  clear hS4 hp3 he3 hn3 hl3 hw3 hy3 up34 ha3
  repeat kt_at_item
  refine W.selfFn (f := 166) (x := ix) (dx := ixd) (d := idd) (by kernel_rfl) (by kernel_rfl) (by rfl) (by kernel_rfl) ?_ (by rfl) (by rfl) (by rfl) (by rfl) (by rfl)
  repeat kt_at_item
  refine ⟨rfl, HL.ins, ?_⟩
  repeat kt_at_item
  refine CK.more (values_ck (k := 0) (by omega) fun da => ?_) (by decide)
  have elaid : (ts.map fun t => sv t.2.2) = ((tuL turn).map fun j => dig (P.getD j 0)).map sv := by
    have e : (ts.map fun t => sv t.2.2) = (ts.map (·.2)).map fun q => sv q.2 := by rw [List.map_map]; rfl
    rw [e, hts, List.map_map, List.map_map]
    rfl
  rw [elaid]
  repeat kt_at_item
  refine GenE ((da, AO.list (((tuL turn).map fun j => dig (P.getD j 0)).map sv)) :: S4) ?_
  intro S5 hS5
  have up45 : S4.Sublist S5 := by rw [← hS5]; exact List.sublist_cons_self _ _
  refine WX.sb (σ' := HL ix ixd idd ts ++ S5) (by rw [← hS5]; exact Sb.mid [_] _ _) ?_
  have ha5 : Rd (gh p) S5 da (.list (((tuL turn).map fun j => dig (P.getD j 0)).map sv)) := by rw [← hS5]; exact .inl List.mem_cons_self
  have ht5 := ht4.up up45
  have hp5 := hp4.up up45
  have he5 := he4.up up45
  have hn5 := hn4.up up45
  have hl5 := hl4.up up45
  have hw5 := hw4.up up45
  have hy5 := hy4.up up45
  clear hS5 ht4 hp4 he4 hn4 hl4 hw4 hy4 up45
  have uH : S5.Sublist (HL ix ixd idd ts ++ S5) := List.sublist_append_right _ _
  refine WX.le (M := [("laid", .ref da), ("index", .ref ix), ("turned", .ref dt), ("turn", .int turn 0), ("names", .ref dn), ("ends", .ref de), ("places", .ref dp), ("ways", .ref dy), ("words", .ref dw), ("lefts", .ref dl)]) (by kt_at_in) ?_
  refine WX.asgComp he (nvs (tuL turn)) (depL (gh p) (nvs (tuL turn))) (fun xv i ys σ' => xv = .ref dt ∧ σ' = HL ix ixd idd ts ++ S5 ∧ ys = (((tuL turn).take i).filter fun j => decide (lowW (Wc.getD j 0) = [97])).map fun j => sv (dig (P.getD j 0))) [("words", .ref dw), ("places", .ref dp)] (kind_of he (by rfl)) (by rfl) (by rfl) (by rfl) (by rw [nvs_len]; omega) (by kt_at_in) ?_ ?_ ?_ (by intro _; rfl)
  rotate_left
  · rintro xv i ys σ' ⟨rfl, e, _⟩
    exact ⟨dt, rfl, by rw [e]; exact ht5.up uH⟩
  · rintro xv cenv hce i v ys σ' hv ⟨rfl, e, rfl⟩
    rw [e]
    clear e
    obtain ⟨hi, rfl⟩ := nvs_at hv
    have hj9 := tu_lt turn _ (List.getElem_mem hi)
    have htake : ((tuL turn).take (i + 1)) = (tuL turn).take i ++ [(tuL turn)[i]] := List.take_succ_eq_append_getElem hi
    revert hj9 htake
    refine Gen0 ((tuL turn)[i]) ?_
    intro j hj9 htake
    have hc8 := hWk j hj9
    refine WG.local (kind_of hce (by rfl)) ?_
    dsimp only [WTs]
    repeat kt_at_item
    refine SB.list (hw5.up uH) (by first | exact Int.natCast_nonneg _ | omega) (by first | exact lt63 (by with_reducible assumption) | omega) (wordsv_getD (by omega)) ?_
    refine ⟨TyIs.str, ?_⟩
    repeat kt_at_item
    refine CK.lower (word_low _ hc8) (word_short _ (Nat.lt_of_lt_of_le (Nat.mod_lt _ (by decide)) (by decide))) ?_
    refine W.cSv (l := [97]) (by rfl) ?_
    repeat kt_at_item
    rw [htake, List.filter_append, List.map_append]
    by_cases hc : lowW (Wc.getD j 0) = [97]
    · simp only [hc, decide_true, if_true, List.filter_cons, List.filter_nil, List.map_cons, List.map_nil]
      repeat kt_at_item
      refine SB.list (hp5.up uH) (by first | exact Int.natCast_nonneg _ | omega) (by first | exact lt63 (by with_reducible assumption) | omega) (by rw [Int.toNat_natCast]; exact iv_getD (by rw [hT.lp]; exact hj9)) ?_
      repeat kt_at_item
      refine strOf_ck (hPk j hj9).1 (hPk j hj9).2 ?_
      exact ⟨⟨trivial, rfl, rfl⟩, by kt_at_in⟩
    · simp only [hc, decide_false, Bool.false_eq_true, if_false, List.filter_cons, List.filter_nil, List.map_nil, List.append_nil]
      first | exact ⟨⟨trivial, trivial, trivial⟩, by kt_at_in⟩ | exact ⟨⟨trivial, trivial, rfl⟩, by kt_at_in⟩ | exact ⟨⟨trivial, rfl, trivial⟩, by kt_at_in⟩
  repeat kt_at_item
  refine ⟨It.listD (ht5.up uH), ⟨_, List.Sublist.refl _, rfl, rfl, rfl⟩, by kt_at_in, ?_⟩
  rintro ys σ' db ⟨_, e1, rfl⟩
  rw [e1, nvs_len, List.take_of_length_le (Nat.le_refl _)]
  clear e1
  have ebare : (((tuL turn).filter fun j => decide (lowW (Wc.getD j 0) = [97])).map fun j => sv (dig (P.getD j 0))) = (((tuL turn).filter fun j => decide (lowW (Wc.getD j 0) = [97])).map fun j => dig (P.getD j 0)).map sv := by rw [List.map_map]; rfl
  rw [ebare]
  refine GenE ((db, AO.list ((((tuL turn).filter fun j => decide (lowW (Wc.getD j 0) = [97])).map fun j => dig (P.getD j 0)).map sv)) :: S5) ?_
  intro S6 hS6
  have up56 : S5.Sublist S6 := by rw [← hS6]; exact List.sublist_cons_self _ _
  refine WX.sb (σ' := HL ix ixd idd ts ++ S6) (by rw [← hS6]; exact Sb.mid [_] _ _) ?_
  have hb6 : Rd (gh p) S6 db (.list ((((tuL turn).filter fun j => decide (lowW (Wc.getD j 0) = [97])).map fun j => dig (P.getD j 0)).map sv)) := by rw [← hS6]; exact .inl List.mem_cons_self
  have ha6 := ha5.up up56
  have ht6 := ht5.up up56
  have hp6 := hp5.up up56
  have he6 := he5.up up56
  have hn6 := hn5.up up56
  have hl6 := hl5.up up56
  have hw6 := hw5.up up56
  have hy6 := hy5.up up56
  clear hS6 ha5 ht5 hp5 he5 hn5 hl5 hw5 hy5 up56 uH ebare
  have uH : S6.Sublist (HL ix ixd idd ts ++ S6) := List.sublist_append_right _ _
  refine WX.iteJ (fun m σ' => Le [("laid", .ref da), ("index", .ref ix), ("names", .ref dn), ("ends", .ref de), ("places", .ref dp), ("ways", .ref dy), ("words", .ref dw), ("lefts", .ref dl)] m ∧ Sb (HL ix ixd idd ts ++ S6) σ') ?_ ?_
  · refine WT.any ?_
    dsimp only [WAny]
    repeat kt_at_item
    refine W.comp he (nvs (tuL turn)) (depL (gh p) (nvs (tuL turn))) (fun xv i ys σ' => xv = .ref dt ∧ σ' = HL ix ixd idd ts ++ S6 ∧ ys = ((tuL turn).take i).map fun j => sv (dig (P.getD j 0))) [("places", .ref dp)] (by rfl) (by rfl) (by rw [nvs_len]; omega) (by kt_at_in) ?_ ?_ ?_ (by intro _; rfl)
    rotate_left
    · rintro xv i ys σ' ⟨rfl, e, _⟩
      exact ⟨dt, rfl, by rw [e]; exact ht6.up uH⟩
    · rintro xv cenv hce i v ys σ' hv ⟨rfl, e, rfl⟩
      rw [e]
      clear e
      obtain ⟨hi, rfl⟩ := nvs_at hv
      have hj9 := tu_lt turn _ (List.getElem_mem hi)
      have htake : ((tuL turn).take (i + 1)) = (tuL turn).take i ++ [(tuL turn)[i]] := List.take_succ_eq_append_getElem hi
      revert hj9 htake
      refine Gen0 ((tuL turn)[i]) ?_
      intro j hj9 htake
      refine WG.local (kind_of hce (by rfl)) ?_
      simp only [WTs, if_true]
      repeat kt_at_item
      refine SB.list (hp6.up uH) (by first | exact Int.natCast_nonneg _ | omega) (by first | exact lt63 (by with_reducible assumption) | omega) (by rw [Int.toNat_natCast]; exact iv_getD (by rw [hT.lp]; exact hj9)) ?_
      repeat kt_at_item
      refine strOf_ck (hPk j hj9).1 (hPk j hj9).2 ?_
      exact ⟨⟨trivial, rfl, by rw [htake, List.map_append]; rfl⟩, by kt_at_in⟩
    repeat kt_at_item
    refine ⟨It.listD (ht6.up uH), ⟨_, List.Sublist.refl _, rfl, rfl, rfl⟩, by kt_at_in, ?_⟩
    rintro ys σ' dc ⟨_, e1, rfl⟩
    rw [e1, nvs_len, List.take_of_length_le (Nat.le_refl _)]
    clear e1
    have ec : ((tuL turn).map fun j => sv (dig (P.getD j 0))) = ((tuL turn).map fun j => dig (P.getD j 0)).map sv := by rw [List.map_map]; rfl
    rw [ec]
    refine CO.neL (R := RS) EqR.str ⟨da, _, rfl, (ha6.up uH).up (List.sublist_cons_self _ _), both_sv _⟩ ⟨dc, _, rfl, .inl List.mem_cons_self, both_sv _⟩ ?_
    repeat kt_at_item
    refine ifF (by rw [decide_eq_true rfl]; rfl) ?_
    repeat kt_at_item
    refine W.selfFn (f := 148) (x := ix) (dx := ixd) (d := idd) (by kernel_rfl) (by kernel_rfl) (by rfl) (by kernel_rfl) ?_ (by rfl) (by rfl) (by rfl) (by rfl) (by rfl)
    repeat kt_at_item
    refine ⟨rfl, HL.ins.up (List.sublist_cons_self _ _), ?_⟩
    refine WA.cons (W.cSv (l := [65]) (by rfl) ?_) (by rfl)
    repeat kt_at_item
    refine CK.sb (Sb.mid [_] _ _) (CK.more (getall_ck (k := 0) (n := [65]) (by omega) (plain_of (by decide)) (plain_of (by decide)) (by decide) htsf fun dD => ?_) (by decide))
    rw [get_named (q := fun j => decide (lowW (Wc.getD j 0) = [97])) hts (fun j hj => ?_)]
    · repeat kt_at_item
      refine CO.neL (R := RS) EqR.str ⟨dD, _, rfl, .inl List.mem_cons_self, both_sv _⟩ ⟨db, _, rfl, hb6.up (((List.sublist_cons_self _ _).trans (List.sublist_append_right _ _)).trans (List.sublist_cons_self _ _)), both_sv _⟩ ?_
      repeat kt_at_item
      simp only [decide_true, Bool.not_true, Bool.false_eq_true, if_false]
      repeat kt_at_item
      refine ⟨rfl, by kt_at_in, ?_⟩
      exact Sb.skip _ (Sb.sub ((List.Sublist.refl _).append (List.sublist_cons_self _ _)))
    · have hj9 := tu_lt turn j hj
      rw [hNk j hj9]
      have := name_A ⟨_, hWk j hj9⟩
      dsimp only at this
      rw [decide_eq_decide]
      exact this
  · rintro m σ' ⟨hm, hsb⟩
    refine WX.sb hsb (WX.le hm ?_)
    clear hsb hm m σ'
    repeat kt_at_item
    have env_ : nv ((tuL turn).map fun j => P.getD j 0) = ((tuL turn).map fun j => dig (P.getD j 0)).map sv := by
      unfold nv; rw [List.map_map, List.map_map]; rfl
    refine CK.more (row_ck (k := 0) (t := da) (ns := (tuL turn).map fun j => P.getD j 0) (by rw [env_]; exact ha6.up uH) (by rw [List.length_map]; omega) ?_ fun dO => ?_) (by decide)
    · intro n hn
      obtain ⟨j, hj, rfl⟩ := List.mem_map.mp hn
      exact hPk j (tu_lt turn j hj)
    rw [opens_sorted hT turn]
    refine GenE ((dO, AO.list (iv P)) :: S6) ?_
    intro S7 hS7
    have up67 : S6.Sublist S7 := by rw [← hS7]; exact List.sublist_cons_self _ _
    have hO7 : Rd (gh p) S7 dO (.list (iv P)) := by rw [← hS7]; exact .inl List.mem_cons_self
    have hp7 := hp6.up up67
    have he7 := he6.up up67
    have hn7 := hn6.up up67
    have hl7 := hl6.up up67
    have hw7 := hw6.up up67
    have hy7 := hy6.up up67
    refine WX.sb (σ' := HL ix ixd idd ts ++ S7) (by rw [← hS7]; exact Sb.mid [_] _ _) ?_
    clear hS7 hb6 ha6 ht6 hp6 he6 hn6 hl6 hw6 hy6 up67 uH
    repeat kt_at_item
    refine W.compV he (γ := Addr × Addr × Addr) (fun c => [.ref c.1, .ref c.2.1, .ref c.2.2]) (fun c => depL (gh p) [.ref c.1, .ref c.2.1, .ref c.2.2])
      (fun c xv i ys σ' => ∃ (tl : Addr) (ws : List Addr) (Sr : AH), xv = .ref tl ∧ Rd (gh p) Sr tl (.list [.ref c.1, .ref c.2.1, .ref c.2.2]) ∧ Rd (gh p) Sr c.1 (.tup [sv (wordOf 4), .int ((1 : Nat) : Int) 0]) ∧ Rd (gh p) Sr c.2.1 (.tup [sv (wordOf 1), .int ((2 : Nat) : Int) 0]) ∧ Rd (gh p) Sr c.2.2 (.tup [sv (wordOf 6), .int ((3 : Nat) : Int) 0]) ∧
        ys = ws.map .ref ∧ ws.length = i ∧ S7.Sublist Sr ∧ (∀ j, j < i → (ws.getD j 0, AO.list (iv (rowOf P Wc j))) ∈ Sr) ∧ Sb (HL ix ixd idd ts ++ Sr) σ')
      [("index", .ref ix)] (by rfl) (by rfl) (by simp) (by kt_at_in) ?_ ?_ ?_ (by intro _; rfl)
    · refine W.list ?_
      refine WA.cons (W.tuple (WA.cons (W.cSv (l := [65, 38]) (by rfl) ?_) (by rfl))) (by rfl)
      repeat kt_at_item
      refine ⟨by simp, fun t1 => ?_⟩
      refine WA.cons (W.tuple (WA.cons (W.cSv (l := [98, 60]) (by rfl) ?_) (by rfl))) (by rfl)
      repeat kt_at_item
      refine ⟨by simp, fun t2 => ?_⟩
      refine WA.cons (W.tuple (WA.cons (W.cSv (l := [67, 38, 60]) (by rfl) ?_) (by rfl))) (by rfl)
      repeat kt_at_item
      refine ⟨by simp, fun t3 => ?_⟩
      repeat kt_at_item
      refine ⟨by simp, fun tl => ?_⟩
      have hRl : ∀ {σ'' : AH}, Rd (gh p) ((tl, AO.list [Value.ref t1, .ref t2, .ref t3]) :: σ'') tl (.list [.ref t1, .ref t2, .ref t3]) := .inl List.mem_cons_self
      refine ⟨(t1, t2, t3), It.listD hRl, ⟨_, List.Sublist.refl _, tl, [], (tl, AO.list [Value.ref t1, .ref t2, .ref t3]) :: (t3, .tup [sv [67, 38, 60], .int 3 0]) :: (t2, .tup [sv [98, 60], .int 2 0]) :: (t1, .tup [sv [65, 38], .int 1 0]) :: S7, rfl, .inl List.mem_cons_self, .inl (by simp [wordOf]), .inl (by simp [wordOf]), .inl (by simp [wordOf]), rfl, rfl, (((List.sublist_cons_self _ _).trans (List.sublist_cons_self _ _)).trans (List.sublist_cons_self _ _)).trans (List.sublist_cons_self _ _), by intro j hj; omega, Sb.mid [_, _, _, _] _ _⟩, by kt_at_in, ?_⟩
      rintro ys σ' dR ⟨tl, rs, Sr, _, _, _, _, _, rfl, lrs, up7r, hrs, hsb⟩
      have lrs3 : rs.length = 3 := lrs
      refine GenE ((dR, AO.list (rs.map Value.ref)) :: Sr) ?_
      intro S8 hS8
      have upr8 : Sr.Sublist S8 := by rw [← hS8]; exact List.sublist_cons_self _ _
      have up78 := up7r.trans upr8
      have hR8 : Rd (gh p) S8 dR (.list (rs.map .ref)) := by rw [← hS8]; exact .inl List.mem_cons_self
      have hrs8 : ∀ j, j < 3 → Rd (gh p) S8 (rs.getD j 0) (.list (iv ((rowsOf P Wc).getD j []))) := fun j hj => by
        have h3 : (rowsOf P Wc).getD j [] = rowOf P Wc j := by
          rcases lt3 hj with rfl | rfl | rfl <;> rfl
        rw [h3]; exact .inl (upr8.subset (hrs j hj))
      have hO8 := hO7.up up78
      have hp8 := hp7.up up78
      have he8 := he7.up up78
      have hn8 := hn7.up up78
      have hl8 := hl7.up up78
      have hw8 := hw7.up up78
      have hy8 := hy7.up up78
      refine WX.sb (σ' := S8) (by rw [← hS8]; exact Sb.cons _ ((Sb.sub (List.sublist_append_right _ _)).trans hsb)) ?_
      clear hsb hS8 hrs up7r upr8 up78 lrs hO7 hp7 he7 hn7 hl7 hw7 hy7 htsf hts lts σ'
      refine WX.le (M := [("rows", .ref dR), ("opens", .ref dO), ("names", .ref dn), ("ends", .ref de), ("places", .ref dp), ("ways", .ref dy), ("words", .ref dw), ("lefts", .ref dl)]) (by kt_at_in) ?_
      repeat kt_at_item
      have hpx : ∀ x, x < 9 → partX P E P (rowsOf P Wc) x = partOf par (wholeF par Wc) x := fun x hx => partX_is hP hT lW hW hx
      refine CK.more (found_ck (k := 0) hn8 hR8 hO8 hp8 he8 hrs8 lrs3 rfl lN (Nat.le_of_eq hT.lp) (pl_sorted hT) hT.lp hT.le hNf ?_ ?_ ?_ ?_) (by decide)
      · intro r hr
        have key : ∀ c, (rowOf P Wc c).Pairwise (· ≤ ·) ∧ (rowOf P Wc c).length ≤ 9 ∧ ∀ y ∈ rowOf P Wc c, 1 ≤ cntLe P y := fun c => by
          refine ⟨row_sorted hT Wc c, by unfold rowOf; rw [List.length_map]; exact ofKind_len Wc c, fun y hy => ?_⟩
          obtain ⟨j, hj, rfl⟩ := List.mem_map.mp hy
          rw [cnt_own hT (ofKind_lt Wc c j hj)]; omega
        simp only [rowsOf, List.mem_cons, List.not_mem_nil, or_false] at hr
        rcases hr with rfl | rfl | rfl
        · exact key 0
        · exact key 1
        · exact key 2
      · intro i hi
        exact (hT.end_iff (Nat.zero_le _) hi).mpr (Anc.root hP hi)
      · intro x hx
        rw [hpx x hx]
        exact (part_range hP hx).2
      intro fx fdx fdd fs S9 up89 hfs
      have hfs2 : fs.map (·.2) = (List.range' 0 9).filterMap (foundAt (partOf par (wholeF par Wc)) (Wc.map nameW)) := by
        rw [hfs]
        refine filterMap_same fun x hx => ?_
        have : x < 9 := by have := List.mem_range'.mp hx; omega
        unfold foundAt
        rw [hpx x this]
      clear hfs hpx
      have lfs : fs.length ≤ 9 := by
        have := congrArg List.length hfs2
        rw [List.length_map] at this
        have h2 := List.length_filterMap_le (foundAt (partOf par (wholeF par Wc)) (Wc.map nameW)) (List.range' 0 9)
        rw [List.length_range'] at h2
        omega
      have hR9 := hR8.up up89
      have hrs9 : ∀ j, j < 3 → Rd (gh p) S9 (rs.getD j 0) (.list (iv ((rowsOf P Wc).getD j []))) := fun j hj => (hrs8 j hj).up up89
      have hO9 := hO8.up up89
      have hp9 := hp8.up up89
      have he9 := he8.up up89
      have hn9 := hn8.up up89
      have hl9 := hl8.up up89
      have hw9 := hw8.up up89
      have hy9 := hy8.up up89
      clear up89 hR8 hrs8 hO8 hp8 he8 hn8 hl8 hw8 hy8
      have uF : S9.Sublist (HL fx fdx fdd fs ++ S9) := List.sublist_append_right _ _
      repeat kt_at_item
      refine CK.more (whole_ck (k := 0) (hl9.up uF) (hw9.up uF) hP.len lW hW fun dwh => ?_) (by decide)
      repeat kt_at_item
      have hwh9 : ∀ k, k ∈ wholeF par Wc ↔ (k < 9 ∧ Whole par Wc k) := fun k => mem_whole hP lW hW k
      have lwh : (wholeF par Wc).length ≤ 9 := by
        unfold wholeF
        refine Nat.le_trans (List.length_filter_le _ _) ?_
        simp
      refine CK.more (parts_ck (k := 0) ((hl9.up uF).up (List.sublist_cons_self _ _)) (.inl List.mem_cons_self) hP fun dpa => ?_) (by decide)
      refine GenE ((dpa, AO.list (iv ((List.range' 0 9).map (partOf par (wholeF par Wc))))) :: (dwh, .list (nvs (wholeF par Wc))) :: S9) ?_
      intro S10 hS10
      have up910 : S9.Sublist S10 := by rw [← hS10]; exact (List.sublist_cons_self _ _).trans (List.sublist_cons_self _ _)
      refine WX.sb (σ' := HL fx fdx fdd fs ++ S10) (by rw [← hS10]; exact Sb.mid [_, _] _ _) ?_
      have hpa10 : Rd (gh p) S10 dpa (.list (iv ((List.range' 0 9).map (partOf par (wholeF par Wc))))) := by rw [← hS10]; exact .inl List.mem_cons_self
      have hwh10 : Rd (gh p) S10 dwh (.list (nvs (wholeF par Wc))) := by rw [← hS10]; exact .inl (List.mem_cons_of_mem _ List.mem_cons_self)
      have hR10 := hR9.up up910
      have hrs10 : ∀ j, j < 3 → Rd (gh p) S10 (rs.getD j 0) (.list (iv ((rowsOf P Wc).getD j []))) := fun j hj => (hrs9 j hj).up up910
      have hO10 := hO9.up up910
      have hp10 := hp9.up up910
      have he10 := he9.up up910
      have hl10 := hl9.up up910
      have hw10 := hw9.up up910
      have hy10 := hy9.up up910
      clear hS10 hR9 hrs9 hO9 hp9 he9 hn9 hl9 hw9 hy9 uF up910
      have uF : S10.Sublist (HL fx fdx fdd fs ++ S10) := List.sublist_append_right _ _
      refine WX.le (M := [("parts", .ref dpa), ("whole", .ref dwh), ("found", .ref fx), ("rows", .ref dR), ("opens", .ref dO), ("ends", .ref de), ("places", .ref dp), ("ways", .ref dy), ("words", .ref dw), ("lefts", .ref dl)]) (by kt_at_in) ?_
      repeat kt_at_item
      refine W.comp he (nvs (List.range' 0 9)) (fun _ _ => True) (fun _ i ys σ' => σ' = HL fx fdx fdd fs ++ S10 ∧ ys = (((List.range' 0 9).take i).map fun x => sv ((Wc.map nameW).getD x []))) [("words", .ref dw), ("ways", .ref dy)] (by rfl) (by rfl) (by simp [nvs]) (by kt_at_in) ?_ (fun _ _ _ _ _ => trivial) ?_ (by intro _; rfl)
      rotate_left
      · rintro xv cenv hce i v ys σ' hv ⟨e, rfl⟩
        rw [e]
        clear e
        obtain ⟨hi, hv'⟩ := nvs_at hv
        have hi9 : i < 9 := by simpa using hi
        rw [range'_get hi, Nat.zero_add] at hv'
        subst hv'
        refine WG.local (kind_of hce (by rfl)) ?_
        simp only [WTs, if_true]
        repeat kt_at_item
        refine SB.list (hw10.up uF) (by first | exact Int.natCast_nonneg _ | omega) (by first | exact lt63 (by with_reducible assumption) | omega) (wordsv_getD (by omega)) ?_
        repeat kt_at_item
        have hwi : wy.getD i 0 < 4 := getD_lt hw (by omega)
        refine SB.list (v := .int (wy.getD i 0 : Nat) 0) (hy10.up uF) (by omega) (by omega) ?_ ?_
        · rw [Int.toNat_natCast, nvs, List.getElem?_map, List.getElem?_eq_getElem (by omega), getD_of (by omega)]; rfl
        repeat kt_at_item
        refine CK.more (spelled_ck (k := 0) hwi ?_ ?_) (by decide)
        · have := word_len (Wc.getD i 0); omega
        · have := (name_facts ⟨_, hWk i hi9⟩).2.2 ⟨_, hwi⟩
          dsimp only at this
          rw [this.1]
          refine ⟨⟨rfl, ?_⟩, by kt_at_in⟩
          rw [List.take_succ_eq_append_getElem hi, List.map_append, range'_get hi, Nat.zero_add, List.map_cons, List.map_nil, hNk i hi9]
      repeat kt_at_item
      refine CK.range1 fun R o ho => ?_
      refine ⟨It.rangeN (a := 0) (b := 9) (by decide) (by decide) List.mem_cons_self ho (fun _ _ => trivial), ⟨_, List.sublist_cons_self _ _, rfl, rfl⟩, by kt_at_in, ?_⟩
      rintro ys σ' ddr ⟨e1, rfl⟩
      rw [e1]
      clear e1
      have edr : ((List.range' 0 9).take (nvs (List.range' 0 9)).length).map (fun x => sv ((Wc.map nameW).getD x [])) = (Wc.map nameW).map sv := by
        rw [List.take_of_length_le (by simp [nvs])]
        have := map_getD (Wc.map nameW) [] lN
        conv => rhs; rw [← this]
        rw [List.map_map]; rfl
      rw [edr]
      refine GenE ((ddr, AO.list ((Wc.map nameW).map sv)) :: S10) ?_
      intro S11 hS11
      have up1011 : S10.Sublist S11 := by rw [← hS11]; exact List.sublist_cons_self _ _
      refine WX.sb (σ' := HL fx fdx fdd fs ++ S11) (by rw [← hS11]; exact Sb.mid [_] _ _) ?_
      have hdr11 : Rd (gh p) S11 ddr (.list ((Wc.map nameW).map sv)) := by rw [← hS11]; exact .inl List.mem_cons_self
      have hpa11 := hpa10.up up1011
      have hwh11 := hwh10.up up1011
      have hR11 := hR10.up up1011
      have hrs11 : ∀ j, j < 3 → Rd (gh p) S11 (rs.getD j 0) (.list (iv ((rowsOf P Wc).getD j []))) := fun j hj => (hrs10 j hj).up up1011
      have hO11 := hO10.up up1011
      have hp11 := hp10.up up1011
      have he11 := he10.up up1011
      have hl11 := hl10.up up1011
      clear hS11 hpa10 hwh10 hR10 hrs10 hO10 hp10 he10 hl10 hw10 hy10 uF up1011 edr
      have uF : S11.Sublist (HL fx fdx fdd fs ++ S11) := List.sublist_append_right _ _
      refine WX.le (M := [("dressed", .ref ddr), ("parts", .ref dpa), ("whole", .ref dwh), ("found", .ref fx), ("rows", .ref dR), ("opens", .ref dO), ("ends", .ref de), ("places", .ref dp), ("lefts", .ref dl)]) (by kt_at_in) ?_
      have hparts : ∀ x, x < 9 → (iv ((List.range' 0 9).map (partOf par (wholeF par Wc))))[((x : Nat) : Int).toNat]? = some (.int (partOf par (wholeF par Wc) x) 0) := fun x hx => by
        rw [Int.toNat_natCast, iv, List.getElem?_map, List.getElem?_map, List.getElem?_eq_getElem (by simpa using hx), List.getElem_range']
        simp
      have hdress : ∀ x, x < 9 → ((Wc.map nameW).map sv)[((x : Nat) : Int).toNat]? = some (sv ((Wc.map nameW).getD x [])) := fun x hx => by
        rw [Int.toNat_natCast]; exact svs_getD (by omega)
      have hprng : ∀ x, x < 9 → -1 ≤ partOf par (wholeF par Wc) x ∧ partOf par (wholeF par Wc) x < 9 := fun x hx => part_range hP hx
      refine WX.iteJ (fun m σ' => Le [("dressed", .ref ddr), ("parts", .ref dpa), ("whole", .ref dwh), ("found", .ref fx), ("rows", .ref dR), ("ends", .ref de), ("places", .ref dp), ("lefts", .ref dl)] m ∧ Sb (HL fx fdx fdd fs ++ S11) σ') ?_ ?_
      · refine WT.any ?_
        dsimp only [WAny]
        repeat kt_at_item
        refine CO.neL (R := RI) EqR.int ⟨dO, _, rfl, hO11.up uF, both_iv _⟩ ⟨dp, _, rfl, hp11.up uF, both_iv _⟩ ?_
        repeat kt_at_item
        refine ifF (by rw [decide_eq_true rfl]; rfl) ?_
        refine WT.compare ?_ (by rfl)
        refine W.selfFn (f := 173) (x := fx) (dx := fdx) (d := fdd) (by kernel_rfl) (by kernel_rfl) (by rfl) (by kernel_rfl) ?_ (by rfl) (by rfl) (by rfl) (by rfl) (by rfl)
        repeat kt_at_item
        refine ⟨rfl, HL.ins, ?_⟩
        repeat kt_at_item
        refine CK.more (items_ck (k := 0) (by omega) fun dI => ?_) (by decide)
        repeat kt_at_item
        refine GenE ((dI, AO.list (fs.map fun t => Value.ref t.1)) :: (HL fx fdx fdd fs ++ S11)) ?_
        intro SI hSI
        have upI : (HL fx fdx fdd fs ++ S11).Sublist SI := by rw [← hSI]; exact List.sublist_cons_self _ _
        have hI : Rd (gh p) SI dI (.list (fs.map fun t => Value.ref t.1)) := by rw [← hSI]; exact .inl List.mem_cons_self
        clear hSI
        refine W.comp he (nvs (List.range' 0 9)) (fun _ _ => True) (fun _ i ys σ' => SI.Sublist σ' ∧ ∃ ps : HT, ys = (ps.map fun t => Value.ref t.1) ∧ ps.map (·.2) = ((List.range' 0 9).take i).filterMap (foundAt (partOf par (wholeF par Wc)) (Wc.map nameW)) ∧ ∀ t ∈ ps, (t.1, AO.tup [sv t.2.1, sv t.2.2]) ∈ σ')
          [("parts", .ref dpa), ("dressed", .ref ddr)] (by rfl) (by rfl) (by simp [nvs]) (by kt_at_in) ?_ (fun _ _ _ _ _ => trivial) ?_ (by intro _; rfl)
        · repeat kt_at_item
          refine CK.range1 fun R o ho => ?_
          refine ⟨It.rangeN (a := 0) (b := 9) (by decide) (by decide) List.mem_cons_self ho (fun _ _ => trivial), ⟨_, List.sublist_cons_self _ _, List.Sublist.refl _, [], rfl, rfl, by simp⟩, by kt_at_in, ?_⟩
          rintro ys σ' dC ⟨upC, ps, rfl, hps, htp⟩
          rw [List.take_of_length_le (by simp [nvs]), ← hfs2] at hps
          have hupall := (upI.trans upC).trans (List.sublist_cons_self (dC, AO.list (ps.map fun t => Value.ref t.1)) σ')
          have hcs : fs.map (fun t => [t.2.1, t.2.2]) = ps.map (fun t => [t.2.1, t.2.2]) := by
            have e : ∀ l : HT, l.map (fun t => [t.2.1, t.2.2]) = (l.map (·.2)).map fun q => [q.1, q.2] := fun l => by rw [List.map_map]; rfl
            rw [e, e, hps]
          refine CO.neL (R := RT (gh p) _ RS) (EqR.tup (by decide) EqR.str) (cs := fs.map fun t => [t.2.1, t.2.2]) (ds := ps.map fun t => [t.2.1, t.2.2])
            ⟨dI, _, rfl, (hI.up upC).up (List.sublist_cons_self _ _), both_mem (e := fun t : Addr × List Nat × List Nat => [t.2.1, t.2.2]) fun t ht => ⟨t.1, _, rfl, .inl (hupall.subset (HL.tup ht)), both_sv [t.2.1, t.2.2]⟩⟩
            ⟨dC, _, rfl, .inl List.mem_cons_self, both_mem (e := fun t : Addr × List Nat × List Nat => [t.2.1, t.2.2]) fun t ht => ⟨t.1, _, rfl, .inl (List.mem_cons_of_mem _ (htp t ht)), both_sv [t.2.1, t.2.2]⟩⟩ ?_
          rw [hcs]
          repeat kt_at_item
          simp only [decide_true, Bool.not_true, Bool.false_eq_true, if_false]
          repeat kt_at_item
          exact ⟨rfl, by kt_at_in, Sb.sub hupall⟩
        · rintro xv cenv hce i v ys σ' hv ⟨upC, ps, rfl, hps, htp⟩
          obtain ⟨hi, hv'⟩ := nvs_at hv
          have hi9 : i < 9 := by simpa using hi
          rw [range'_get hi, Nat.zero_add] at hv'
          subst hv'
          have uC := (uF.trans upI).trans upC
          obtain ⟨hq1, hq2⟩ := hprng i hi9
          have hL : ∀ _ : Unit, ((List.range' 0 9).take (i + 1)).filterMap (foundAt (partOf par (wholeF par Wc)) (Wc.map nameW)) = ps.map (·.2) ++ (match foundAt (partOf par (wholeF par Wc)) (Wc.map nameW) i with | some q => [q] | none => []) := fun _ => by
            rw [List.take_succ_eq_append_getElem hi, List.filterMap_append, hps, range'_get hi, Nat.zero_add]
            cases hq : foundAt (partOf par (wholeF par Wc)) (Wc.map nameW) i <;> simp [List.filterMap_cons, hq]
          refine WG.local (kind_of hce (by rfl)) ?_
          dsimp only [WTs]
          repeat kt_at_item
          refine SB.list (hpa11.up uC) (by first | exact Int.natCast_nonneg _ | omega) (by first | exact lt63 (by with_reducible assumption) | omega) (hparts i hi9) ?_
          revert hq1 hq2
          refine GenE (partOf par (wholeF par Wc) i) ?_
          intro qq hqq hq1 hq2
          repeat kt_at_item
          by_cases hge : qq ≥ 0
          · refine iteY hge ?_
            obtain ⟨q, rfl⟩ := Int.eq_ofNat_of_zero_le hge
            refine W.tuple ?_
            repeat kt_at_item
            have hpi := hparts i hi9
            rw [hqq] at hpi
            refine SB.list (hpa11.up uC) (by first | exact Int.natCast_nonneg _ | omega) (by first | exact lt63 (by with_reducible assumption) | omega) hpi ?_
            repeat kt_at_item
            refine CK.more (tag_ck (k := 0) (by omega) ?_) (by decide)
            repeat kt_at_item
            refine SB.list (hdr11.up uC) (by first | exact Int.natCast_nonneg _ | omega) (by first | exact lt63 (by with_reducible assumption) | omega) (hdress i hi9) ?_
            repeat kt_at_item
            refine ⟨by simp, fun tn => ?_⟩
            refine ⟨⟨upC.trans (List.sublist_cons_self _ _), ps ++ [(tn, tagOf q i, (Wc.map nameW).getD i [])], by simp, ?_, ?_⟩, by kt_at_in⟩
            · have e := hL ()
              unfold foundAt at e ⊢
              rw [hqq, if_pos hge] at e
              rw [e, List.map_append, Int.toNat_natCast]; rfl
            · intro t ht
              rcases List.mem_append.mp ht with r | r
              · exact List.mem_cons_of_mem _ (htp t r)
              · rw [List.mem_singleton.mp r]; exact List.mem_cons_self
          · refine iteN hge ?_
            refine ⟨⟨upC, ps, rfl, ?_, htp⟩, by kt_at_in⟩
            have e := hL ()
            unfold foundAt at e ⊢
            rw [hqq, if_neg hge] at e
            rw [e, List.append_nil]
      · rintro m σ' ⟨hm, hsb⟩
        refine WX.sb hsb (WX.le hm ?_)
        clear hsb hm m σ' hO11
        have htsf2 : ∀ t ∈ fs, ∃ n y, n < 9 ∧ t.2.1 = tagOf n y := fun t ht => by
          have hm : t.2 ∈ fs.map (·.2) := List.mem_map.mpr ⟨t, ht, rfl⟩
          rw [hfs2] at hm
          obtain ⟨x, hx, e⟩ := List.mem_filterMap.mp hm
          have hx9 : x < 9 := by have := List.mem_range'.mp hx; omega
          have := hprng x hx9
          unfold foundAt at e
          revert e this
          refine Gen0 (partOf par (wholeF par Wc) x) ?_
          intro q e this
          split at e
          · exact ⟨q.toNat, x, by omega, by rw [← Option.some.inj e]⟩
          · cases e
        have htsf3 : ∀ t ∈ fs, Plain t.2.1 ∧ t.2.1.length ≤ 1000 := fun t ht => by
          obtain ⟨n, y, hn, e⟩ := htsf2 t ht
          rw [e]
          exact ⟨tag_plain hn, by unfold tagOf; split <;> simp⟩
        obtain ⟨fpart, hfp⟩ : ∃ f : Nat → Int, f = partOf par (wholeF par Wc) := ⟨_, rfl⟩
        obtain ⟨whl, hwhl⟩ : ∃ l : List Nat, l = wholeF par Wc := ⟨_, rfl⟩
        obtain ⟨grp, hgrp⟩ : ∃ G : Nat → List (List Nat), G = fun k : Nat => ((List.range' 0 9).filter fun x => decide (fpart x = (k : Int))).map fun x => (Wc.map nameW).getD x [] := ⟨_, rfl⟩
        have hgrp' : ∀ k, grp k = ((List.range' 0 9).filter fun x => decide (fpart x = (k : Int))).map fun x => (Wc.map nameW).getD x [] := fun k => by rw [hgrp]
        have hgf : ∀ k, k < 9 → ((fs.filter fun t => decide (t.2.1.map lowC = [tagK k].map lowC)).map fun t => sv t.2.2) = (grp k).map sv := fun k hk => by
          have e1 : ((fs.filter fun t => decide (t.2.1.map lowC = [tagK k].map lowC)).map fun t => sv t.2.2) = (((fs.map (·.2)).filter fun r => decide (r.1.map lowC = [112 + k])).map (·.2)).map sv := by
            rw [List.filter_map, List.map_map, List.map_map, tagK_low hk]; rfl
          have e2 := found_filter (f := partOf par (wholeF par Wc)) (N := Wc.map nameW) hk (List.range' 0 9) fun x hx => (hprng x (by have := List.mem_range'.mp hx; omega)).2
          rw [e1, hfs2, e2, hgrp' k, hfp]
        have hparts' : ∀ x, x < 9 → (iv ((List.range' 0 9).map fpart))[((x : Nat) : Int).toNat]? = some (.int (fpart x) 0) := fun x hx => by rw [hfp]; exact hparts x hx
        rw [← hfp] at hpa11
        rw [← hwhl] at hwh11
        clear hgrp hparts
        refine WX.iteJ (fun m σ' => Le [("dressed", .ref ddr), ("parts", .ref dpa), ("whole", .ref dwh), ("found", .ref fx), ("rows", .ref dR), ("ends", .ref de), ("places", .ref dp), ("lefts", .ref dl)] m ∧ Sb (HL fx fdx fdd fs ++ S11) σ') ?_ ?_
        · refine WT.compare ?_ (by rfl)
          refine W.comp he (nvs (List.range' 0 9)) (fun _ _ => True) (fun _ i ys σ' => ∃ (ws : List Addr) (Sr : AH), ys = ws.map .ref ∧ ws.length = i ∧ S11.Sublist Sr ∧ (∀ j, j < i → (ws.getD j 0, AO.list ((grp j).map sv)) ∈ Sr) ∧ Sb (HL fx fdx fdd fs ++ Sr) σ')
            [("found", .ref fx)] (by rfl) (by rfl) (by simp [nvs]) (by kt_at_in) ?_ (fun _ _ _ _ _ => trivial) ?_ (by intro _; rfl)
          · repeat kt_at_item
            refine CK.range1 fun R o ho => ?_
            refine ⟨It.rangeN (a := 0) (b := 9) (by decide) (by decide) List.mem_cons_self ho (fun _ _ => trivial), ⟨_, List.sublist_cons_self _ _, [], S11, rfl, rfl, List.Sublist.refl _, by intro j hj; omega, Sb.refl _⟩, by kt_at_in, ?_⟩
            rintro ys σ' dA ⟨ws, Sr, rfl, lws, upA, hws, hsbA⟩
            refine GenE ((dA, AO.list (ws.map Value.ref)) :: σ') ?_
            intro SA hSA
            have hA : Rd (gh p) SA dA (.list (ws.map .ref)) := by rw [← hSA]; exact .inl List.mem_cons_self
            have sbA : Sb (HL fx fdx fdd fs ++ Sr) SA := by rw [← hSA]; exact Sb.skip _ hsbA
            clear hSA hsbA
            have uA : ∀ {d : Addr} {ao : AO}, Rd (gh p) S11 d ao → Rd (gh p) SA d ao := fun h => ((h.up upA).up (List.sublist_append_right _ _)).sb sbA
            refine W.comp he (nvs (List.range' 0 9)) (fun _ _ => True) (fun _ i ys σ' => ∃ (vs : List Addr), ys = vs.map .ref ∧ vs.length = i ∧ SA.Sublist σ' ∧ (∀ j, j < i → (vs.getD j 0, AO.list ((grp j).map sv)) ∈ σ'))
              [("parts", .ref dpa), ("dressed", .ref ddr)] (by rfl) (by rfl) (by simp [nvs]) (by kt_at_in) ?_ (fun _ _ _ _ _ => trivial) ?_ (by intro _; rfl)
            · repeat kt_at_item
              refine CK.range1 fun R o ho => ?_
              refine ⟨It.rangeN (a := 0) (b := 9) (by decide) (by decide) List.mem_cons_self ho (fun _ _ => trivial), ⟨_, List.sublist_cons_self _ _, [], rfl, rfl, List.Sublist.refl _, by intro j hj; omega⟩, by kt_at_in, ?_⟩
              rintro ys σ' dB ⟨vs, rfl, lvs, upB, hvs⟩
              have l9 : (nvs (List.range' 0 9)).length = 9 := by simp [nvs]
              rw [l9] at lws hws lvs hvs
              refine CO.neL (R := RL (gh p) _ RS) (EqR.list (by decide) EqR.str) (cs := (List.range' 0 9).map grp) (ds := (List.range' 0 9).map grp)
                ⟨dA, _, rfl, (hA.up upB).up (List.sublist_cons_self _ _), both_rows lws fun j hj => (((Rd.sb sbA (.inl (List.mem_append.mpr (.inr (hws j hj))))).up upB).up (List.sublist_cons_self _ _))⟩
                ⟨dB, _, rfl, .inl List.mem_cons_self, both_rows lvs fun j hj => .inl (List.mem_cons_of_mem _ (hvs j hj))⟩ ?_
              repeat kt_at_item
              refine ifF (by rw [decide_eq_true rfl]; rfl) ?_
              repeat kt_at_item
              refine ⟨rfl, by kt_at_in, ?_⟩
              exact Sb.skip _ (Sb.trans (Sb.sub ((List.Sublist.refl _).append upA)) (sbA.trans (Sb.sub upB)))
            · rintro xv cenv hce i v ys σ' hv ⟨vs, rfl, lvs, upB, hvs⟩
              obtain ⟨hi, hv'⟩ := nvs_at hv
              have hi9 : i < 9 := by simpa using hi
              rw [range'_get hi, Nat.zero_add] at hv'
              subst hv'
              refine WG.cell (kind_of hce (by rfl)) (by decide) ?_
              simp only [WTs, if_true]
              refine W.comp hce (nvs (List.range' 0 9)) (fun _ _ => True) (fun _ n ys σ'' => σ'' = σ' ∧ ys = (((List.range' 0 9).take n).filter fun x => decide (fpart x = (i : Int))).map fun x => sv ((Wc.map nameW).getD x [])) [("parts", .ref dpa), ("dressed", .ref ddr), ("k", .int i 0)] (by rfl) (by rfl) (by simp [nvs]) (by kt_at_in) ?_ (fun _ _ _ _ _ => trivial) ?_ (by intro _; rfl)
              · repeat kt_at_item
                refine CK.range1 fun R o ho => ?_
                refine ⟨It.rangeN (a := 0) (b := 9) (by decide) (by decide) List.mem_cons_self ho (fun _ _ => trivial), ⟨_, List.sublist_cons_self _ _, rfl, rfl⟩, by kt_at_in, ?_⟩
                rintro ys σ'' D ⟨e1, rfl⟩
                rw [e1]
                clear e1
                have eg : (((List.range' 0 9).take (nvs (List.range' 0 9)).length).filter fun x => decide (fpart x = (i : Int))).map (fun x => sv ((Wc.map nameW).getD x [])) = (grp i).map sv := by
                  rw [List.take_of_length_le (by simp [nvs]), hgrp' i, List.map_map]; rfl
                rw [eg]
                refine ⟨⟨vs ++ [D], by simp, by simp [lvs], upB.trans (List.sublist_cons_self _ _), ?_⟩, by kt_at_in⟩
                intro j hj
                rcases Nat.lt_or_eq_of_le (Nat.lt_succ_iff.mp hj) with q | q
                · rw [getD_app_lt (by omega)]; exact List.mem_cons_of_mem _ (hvs j q)
                · rw [getD_app_eq (by omega), q]; exact List.mem_cons_self
              · rintro xv2 cenv2 hce2 n v ys σ'' hv ⟨e1, rfl⟩
                rw [e1]
                clear e1
                obtain ⟨hn, hv'⟩ := nvs_at hv
                have hn9 : n < 9 := by simpa using hn
                rw [range'_get hn, Nat.zero_add] at hv'
                subst hv'
                have htake : ((List.range' 0 9).take (n + 1)) = (List.range' 0 9).take n ++ [n] := by
                  rw [List.take_succ_eq_append_getElem hn, range'_get hn, Nat.zero_add]
                rw [htake, List.filter_append, List.map_append]
                clear htake
                refine Gen0 ((((List.range' 0 9).take n).filter fun x => decide (fpart x = (i : Int))).map (fun x => sv ((Wc.map nameW).getD x []))) ?_
                intro acc
                refine WG.local (kind_of hce2 (by rfl)) ?_
                dsimp only [WTs]
                repeat kt_at_item
                refine SB.list ((uA hpa11).up upB) (by first | exact Int.natCast_nonneg _ | omega) (by first | exact lt63 (by with_reducible assumption) | omega) (hparts' n hn9) ?_
                rw [List.filter_cons, List.filter_nil]
                refine Gen0 (fpart n) ?_
                intro q
                repeat kt_at_item
                by_cases hq : q = (i : Int)
                · simp only [hq, beq_self_eq_true, decide_true, if_true, List.map_cons, List.map_nil]
                  repeat kt_at_item
                  refine SB.list ((uA hdr11).up upB) (by first | exact Int.natCast_nonneg _ | omega) (by first | exact lt63 (by with_reducible assumption) | omega) (hdress n hn9) ?_
                  first | exact ⟨⟨trivial, rfl⟩, by kt_at_in⟩ | exact ⟨⟨rfl, rfl⟩, by kt_at_in⟩
                · simp only [beq_eq_false_iff_ne.mpr hq, hq, decide_false, Bool.false_eq_true, if_false, List.map_nil, List.append_nil]
                  first | exact ⟨⟨trivial, trivial⟩, by kt_at_in⟩ | exact ⟨⟨trivial, rfl⟩, by kt_at_in⟩ | exact ⟨⟨rfl, rfl⟩, by kt_at_in⟩
          · rintro xv cenv hce i v ys σ' hv ⟨ws, Sr, rfl, lws, upA, hws, hsbA⟩
            obtain ⟨hi, hv'⟩ := nvs_at hv
            have hi9 : i < 9 := by simpa using hi
            rw [range'_get hi, Nat.zero_add] at hv'
            subst hv'
            refine WG.local (kind_of hce (by rfl)) ?_
            simp only [WTs, if_true]
            refine WV.sb hsbA ?_
            refine W.selfFn (f := 148) (x := fx) (dx := fdx) (d := fdd) (by kernel_rfl) (by kernel_rfl) (by rfl) (by kernel_rfl) ?_ (by rfl) (by rfl) (by rfl) (by rfl) (by rfl)
            repeat kt_at_item
            refine ⟨rfl, HL.ins, ?_⟩
            repeat kt_at_item
            refine W.cSv (l := [80, 113, 82, 115, 84, 117, 86, 119, 88]) (by rfl) ?_
            repeat kt_at_item
            refine SB.str (tagK_at hi9) (by decide) ?_
            repeat kt_at_item
            refine CK.more (getall_ck (k := 0) (n := [tagK i]) (by omega) (tagK_plain hi9).1 (tagK_plain hi9).2 (by simp) htsf3 fun dD => ?_) (by decide)
            rw [hgf i hi9]
            refine ⟨⟨ws ++ [dD], (dD, AO.list ((grp i).map sv)) :: Sr, by simp, by simp [lws], upA.trans (List.sublist_cons_self _ _), ?_, Sb.mid [_] _ _⟩, by kt_at_in⟩
            intro j hj
            rcases Nat.lt_or_eq_of_le (Nat.lt_succ_iff.mp hj) with q | q
            · rw [getD_app_lt (by omega)]; exact List.mem_cons_of_mem _ (hws j q)
            · rw [getD_app_eq (by omega), q]; exact List.mem_cons_self
        · rintro m σ' ⟨hm, hsb⟩
          refine WX.sb hsb (WX.le hm ?_)
          clear hsb hm m σ'
          obtain ⟨R3, hR3⟩ : ∃ l : List (List Int), l = rowsOf P Wc := ⟨_, rfl⟩
          have lR3 : R3.length = 3 := by rw [hR3]; rfl
          rw [← hR3] at hrs11
          have hR3s : ∀ j, j < 3 → (R3.getD j []).Pairwise (· ≤ ·) ∧ (R3.getD j []).length ≤ 1000 := fun j hj => by
            have key : ∀ c, (rowOf P Wc c).Pairwise (· ≤ ·) ∧ (rowOf P Wc c).length ≤ 1000 := fun c =>
              ⟨row_sorted hT Wc c, by unfold rowOf; rw [List.length_map]; exact Nat.le_trans (ofKind_len Wc c) (by decide)⟩
            rw [hR3]
            rcases lt3 hj with rfl | rfl | rfl
            · exact key 0
            · exact key 1
            · exact key 2
          have hall := whole_has hP hT lW hW
          rw [← hwhl, ← hR3] at hall
          refine WX.iteJ (fun m σ' => Le [("dressed", .ref ddr), ("parts", .ref dpa), ("whole", .ref dwh), ("found", .ref fx), ("rows", .ref dR), ("ends", .ref de), ("places", .ref dp), ("lefts", .ref dl)] m ∧ Sb (HL fx fdx fdd fs ++ S11) σ') ?_ ?_
          · refine WT.compare ?_ (by rfl)
            refine W.comp he (nvs (List.range' 0 9)) (fun _ _ => True) (fun _ i ys σ' => (HL fx fdx fdd fs ++ S11).Sublist σ' ∧ ys = nvs (((List.range' 0 9).take i).filter fun k => decide ((R3.filter fun row => !hasF row (P.getD k 0) (E.getD k 0)) = [])))
              [("rows", .ref dR), ("places", .ref dp), ("ends", .ref de)] (by rfl) (by rfl) (by simp [nvs]) (by kt_at_in) ?_ (fun _ _ _ _ _ => trivial) ?_ (by intro _; rfl)
            · repeat kt_at_item
              refine CK.range1 fun R o ho => ?_
              refine ⟨It.rangeN (a := 0) (b := 9) (by decide) (by decide) List.mem_cons_self ho (fun _ _ => trivial), ⟨_, List.sublist_cons_self _ _, List.Sublist.refl _, rfl⟩, by kt_at_in, ?_⟩
              rintro ys σ' dA ⟨upA, rfl⟩
              rw [List.take_of_length_le (by simp [nvs]), hall]
              repeat kt_at_item
              refine CO.neL (R := RI) EqR.int ⟨dA, _, rfl, .inl List.mem_cons_self, both_nvs whl⟩ ⟨dwh, _, rfl, (hwh11.up (uF.trans upA)).up (List.sublist_cons_self _ _), both_nvs whl⟩ ?_
              repeat kt_at_item
              refine ifF (by rw [decide_eq_true rfl]; rfl) ?_
              repeat kt_at_item
              exact ⟨rfl, by kt_at_in, Sb.skip _ (Sb.sub upA)⟩
            · rintro xv cenv hce i v ys σ' hv ⟨upA, rfl⟩
              obtain ⟨hi, hv'⟩ := nvs_at hv
              have hi9 : i < 9 := by simpa using hi
              rw [range'_get hi, Nat.zero_add] at hv'
              subst hv'
              have uA := uF.trans upA
              have htake : ((List.range' 0 9).take (i + 1)) = (List.range' 0 9).take i ++ [i] := by
                rw [List.take_succ_eq_append_getElem hi, range'_get hi, Nat.zero_add]
              rw [htake, List.filter_append]
              clear htake
              refine Gen0 (((List.range' 0 9).take i).filter (fun k => decide ((R3.filter fun row => !hasF row (P.getD k 0) (E.getD k 0)) = []))) ?_
              intro acc
              rw [List.filter_cons, List.filter_nil]
              refine WG.cell (kind_of hce (by rfl)) (by decide) ?_
              dsimp only [WTs]
              refine WT.compare ?_ (by rfl)
              refine W.comp hce (rs.map .ref) (depL (gh p) (rs.map .ref)) (fun xv n ys σ'' => xv = .ref dR ∧ σ'.Sublist σ'' ∧ ∃ js : List Nat, ys = (js.map fun j => Value.ref (rs.getD j 0)) ∧ (js.map fun j => R3.getD j []) = (R3.take n).filter (fun row => !hasF row (P.getD i 0) (E.getD i 0)) ∧ ∀ j ∈ js, j < 3)
                [("places", .ref dp), ("k", .int i 0), ("ends", .ref de)] (by rfl) (by rfl) (by rw [List.length_map]; omega) (by kt_at_in) ?_ ?_ ?_ (by intro _; rfl)
              · repeat kt_at_item
                refine ⟨It.listD (hR11.up uA), ⟨_, List.Sublist.refl _, rfl, List.Sublist.refl _, [], rfl, rfl, by simp⟩, by kt_at_in, ?_⟩
                rintro ys σ'' D ⟨_, upD, js, rfl, hjs, hj3⟩
                rw [List.length_map, List.take_of_length_le (by omega)] at hjs
                repeat kt_at_item
                refine W.list (WA.nil ⟨by simp, fun D2 => ?_⟩)
                refine CO.eqL (R := RL (gh p) _ RI) (EqR.list (by decide) EqR.int) (cs := js.map fun j => R3.getD j []) (ds := [])
                  ⟨D, _, rfl, .inl (List.mem_cons_of_mem _ List.mem_cons_self), both_mem (e := fun j => R3.getD j []) fun j hj => ⟨rs.getD j 0, _, rfl, ((((hrs11 j (hj3 j hj)).up uA).up upD).up (List.sublist_cons_self _ _)).up (List.sublist_cons_self _ _), both_iv _⟩⟩
                  ⟨D2, _, rfl, .inl List.mem_cons_self, rfl, by simp⟩ ?_
                rw [hjs]
                refine Gen0 ((decide ((R3.filter fun row => !hasF row (P.getD i 0) (E.getD i 0)) = []))) ?_
                intro bb
                repeat kt_at_item
                have upF := (upA.trans (upD.trans (List.sublist_cons_self (D, AO.list (js.map fun j => Value.ref (rs.getD j 0))) σ''))).trans (List.sublist_cons_self (D2, AO.list []) _)
                cases bb
                · simp only [Bool.false_eq_true, if_false, List.append_nil]
                  exact ⟨⟨upF, by first | exact rfl | exact trivial⟩, by kt_at_in⟩
                · refine ifT rfl ?_
                  repeat kt_at_item
                  exact ⟨⟨upF, by simp [nvs]⟩, by kt_at_in⟩
              · rintro xv n ys σ'' ⟨rfl, upD, _⟩
                exact ⟨dR, rfl, (hR11.up uA).up upD⟩
              · rintro xv2 cenv2 hce2 n v ys σ'' hv ⟨rfl, upD, js, rfl, hjs, hj3⟩
                have hn : n < 3 := by have := (List.getElem?_eq_some_iff.mp hv).1; rw [List.length_map] at this; omega
                have ev : v = .ref (rs.getD n 0) := by
                  rw [List.getElem?_map, List.getElem?_eq_getElem (by omega)] at hv
                  rw [getD_of (by omega)]
                  exact (Option.some.inj hv).symm
                subst ev
                have uD := uA.trans upD
                have htk : R3.take (n + 1) = R3.take n ++ [R3.getD n []] := by
                  rw [List.take_succ_eq_append_getElem (by omega), getD_of (by omega)]
                rw [htk, List.filter_append, ← hjs]
                clear htk
                rw [List.filter_cons, List.filter_nil]
                obtain ⟨hs1, hs2⟩ := hR3s n hn
                refine WG.local (kind_of hce2 (by rfl)) ?_
                dsimp only [WTs]
                repeat kt_at_item
                refine SB.list (hp11.up uD) (by first | exact Int.natCast_nonneg _ | omega) (by first | exact lt63 (by with_reducible assumption) | omega) (by rw [Int.toNat_natCast]; exact iv_getD (by rw [hT.lp]; exact hi9)) ?_
                repeat kt_at_item
                refine SB.list (he11.up uD) (by first | exact Int.natCast_nonneg _ | omega) (by first | exact lt63 (by with_reducible assumption) | omega) (by rw [Int.toNat_natCast]; exact iv_getD (by rw [hT.le]; exact hi9)) ?_
                repeat kt_at_item
                refine CK.more (has_ck (k := 0) ((hrs11 n hn).up uD) hs2 hs1 fun σ3 up3 => ?_) (by decide)
                show TR (gh p) _ (.bool (hasF (R3.getD n []) (P.getD i 0) (E.getD i 0))) _ σ3
                refine Gen0 (hasF (R3.getD n []) (P.getD i 0) (E.getD i 0)) ?_
                intro bb
                repeat kt_at_item
                cases bb
                · simp only [Bool.not_false, if_true]
                  repeat kt_at_item
                  refine ⟨⟨by first | exact rfl | exact trivial, upD.trans up3, js ++ [n], by simp, by simp, ?_⟩, by kt_at_in⟩
                  intro j hj
                  rcases List.mem_append.mp hj with q | q
                  · exact hj3 j q
                  · rw [List.mem_singleton.mp q]; exact hn
                · simp only [Bool.not_true, Bool.false_eq_true, if_false, List.append_nil]
                  exact ⟨⟨by first | exact rfl | exact trivial, upD.trans up3, js, by first | exact rfl | exact trivial, by first | exact rfl | exact trivial, hj3⟩, by kt_at_in⟩
          · rintro m σ' ⟨hm, hsb⟩
            refine WX.sb hsb (WX.le hm ?_)
            clear hsb hm m σ' hall hR3s
            have lwh9 : whl.length ≤ 9 := by rw [hwhl]; exact lwh
            have hwhk : ∀ k ∈ whl, k < 9 := fun k hk => by rw [hwhl] at hk; exact ((hwh9 k).mp hk).1
            repeat kt_at_item
            refine W.comp he (nvs whl) (depL (gh p) (nvs whl)) (fun xv i ys σ' => xv = .ref dwh ∧ (HL fx fdx fdd fs ++ S11).Sublist σ' ∧ ys = nvs ((whl.take i).filter fun k => decide ((whl.filter fun j => decide (par.getD j 0 = (k : Int))) = [])))
              [("whole", .ref dwh), ("lefts", .ref dl)] (by rfl) (by rfl) (by rw [nvs_len]; omega) (by kt_at_in) ?_ ?_ ?_ (by intro _; rfl)
            rotate_left
            · rintro xv i ys σ' ⟨rfl, upA, _⟩
              exact ⟨dwh, rfl, hwh11.up (uF.trans upA)⟩
            · rintro xv cenv hce i v ys σ' hv ⟨rfl, upA, rfl⟩
              obtain ⟨hi, rfl⟩ := nvs_at hv
              have uA := uF.trans upA
              have htake : whl.take (i + 1) = whl.take i ++ [whl[i]] := List.take_succ_eq_append_getElem hi
              rw [htake, List.filter_append]
              clear htake
              refine Gen0 ((whl.take i).filter (fun k : Nat => decide ((whl.filter fun j => decide (par.getD j 0 = (k : Int))) = []))) ?_
              intro acc
              rw [List.filter_cons, List.filter_nil]
              refine Gen0 (whl[i]) ?_
              intro kk
              refine WG.cell (kind_of hce (by rfl)) (by decide) ?_
              dsimp only [WTs]
              refine WT.compare ?_ (by rfl)
              refine W.comp hce (nvs whl) (depL (gh p) (nvs whl)) (fun xv n ys σ'' => xv = .ref dwh ∧ σ'.Sublist σ'' ∧ ys = nvs ((whl.take n).filter fun j => decide (par.getD j 0 = (kk : Int))))
                [("lefts", .ref dl), ("k", .int (kk : Int) 0)] (by rfl) (by rfl) (by rw [nvs_len]; omega) (by kt_at_in) ?_ ?_ ?_ (by intro _; rfl)
              · repeat kt_at_item
                refine ⟨It.listD (hwh11.up uA), ⟨_, List.Sublist.refl _, rfl, List.Sublist.refl _, rfl⟩, by kt_at_in, ?_⟩
                rintro ys σ'' D ⟨_, upD, rfl⟩
                rw [nvs_len, List.take_of_length_le (Nat.le_refl _)]
                repeat kt_at_item
                refine W.list (WA.nil ⟨by simp, fun D2 => ?_⟩)
                refine CO.eqL (R := RI) EqR.int (cs := (whl.filter fun j => decide (par.getD j 0 = (kk : Int))).map fun (i : Nat) => (i : Int)) (ds := []) ⟨D, _, rfl, .inl (List.mem_cons_of_mem _ List.mem_cons_self), both_nvs _⟩ ⟨D2, _, rfl, .inl List.mem_cons_self, rfl, by simp⟩ ?_
                have upF := (upA.trans (upD.trans (List.sublist_cons_self (D, AO.list (nvs (whl.filter fun j => decide (par.getD j 0 = (kk : Int))))) σ''))).trans (List.sublist_cons_self (D2, AO.list []) _)
                have eb : decide ((whl.filter fun j => decide (par.getD j 0 = (kk : Int))).map (fun (i : Nat) => (i : Int)) = []) = decide ((whl.filter fun j => decide (par.getD j 0 = (kk : Int))) = []) := by
                  rw [decide_eq_decide, List.map_eq_nil_iff]
                rw [eb]
                refine Gen0 ((decide ((whl.filter fun j => decide (par.getD j 0 = (kk : Int))) = []))) ?_
                intro bb
                repeat kt_at_item
                cases bb
                · simp only [Bool.false_eq_true, if_false, List.append_nil]
                  exact ⟨⟨by first | exact rfl | exact trivial, upF, by first | exact rfl | exact trivial⟩, by kt_at_in⟩
                · refine ifT rfl ?_
                  repeat kt_at_item
                  exact ⟨⟨by first | exact rfl | exact trivial, upF, by simp [nvs]⟩, by kt_at_in⟩
              · rintro xv n ys σ'' ⟨rfl, upD, _⟩
                exact ⟨dwh, rfl, (hwh11.up uA).up upD⟩
              · rintro xv2 cenv2 hce2 n v ys σ'' hv ⟨rfl, upD, rfl⟩
                obtain ⟨hn, rfl⟩ := nvs_at hv
                have uD := uA.trans upD
                have hj9 := hwhk _ (List.getElem_mem hn)
                have htake : whl.take (n + 1) = whl.take n ++ [whl[n]] := List.take_succ_eq_append_getElem hn
                rw [htake, List.filter_append]
                clear htake
                refine Gen0 ((whl.take n).filter (fun j => decide (par.getD j 0 = (kk : Int)))) ?_
                intro acc2
                rw [List.filter_cons, List.filter_nil]
                revert hj9
                refine Gen0 (whl[n]) ?_
                intro jj hj9
                refine WG.local (kind_of hce2 (by rfl)) ?_
                dsimp only [WTs]
                repeat kt_at_item
                refine SB.list (hl11.up uD) (by first | exact Int.natCast_nonneg _ | omega) (by first | exact lt63 (by with_reducible assumption) | omega) (by rw [Int.toNat_natCast]; exact iv_getD (by rw [hP.len]; exact hj9)) ?_
                refine Gen0 (par.getD jj 0) ?_
                intro q
                repeat kt_at_item
                by_cases hq : q = (kk : Int)
                · simp only [hq, beq_self_eq_true, decide_true, if_true]
                  repeat kt_at_item
                  exact ⟨⟨by first | exact rfl | exact trivial, upD, by simp [nvs]⟩, by kt_at_in⟩
                · simp only [beq_eq_false_iff_ne.mpr hq, hq, decide_false, Bool.false_eq_true, if_false, List.append_nil]
                  exact ⟨⟨by first | exact rfl | exact trivial, upD, by first | exact rfl | exact trivial⟩, by kt_at_in⟩
            repeat kt_at_item
            refine ⟨It.listD (hwh11.up uF), ⟨_, List.Sublist.refl _, rfl, List.Sublist.refl _, rfl⟩, by kt_at_in, ?_⟩
            rintro ys σ' din ⟨_, upA, rfl⟩
            rw [nvs_len, List.take_of_length_le (Nat.le_refl _)]
            have einn : (whl.filter fun k : Nat => decide ((whl.filter fun j => decide (par.getD j 0 = (k : Int))) = [])) = innerF par whl := rfl
            rw [einn]
            clear einn
            have hleast := least_is hP hT lW hW (Wc.map nameW) hfs2
            have eL : (fs.map (·.2)).map (·.1) = fs.map (·.2.1) := by rw [List.map_map]; rfl
            rw [eL, ← hfp, ← hwhl] at hleast
            revert hleast
            refine Gen0 (innerF par whl) ?_
            intro inn hleast
            refine WX.sb (σ' := HL fx fdx fdd fs ++ ((din, AO.list (nvs inn)) :: S11)) ((Sb.mid [_] _ _).trans (Sb.cons _ (Sb.sub upA))) ?_
            refine GenE ((din, AO.list (nvs inn)) :: S11) ?_
            intro S12 hS12
            have up12 : S11.Sublist S12 := by rw [← hS12]; exact List.sublist_cons_self _ _
            have hin12 : Rd (gh p) S12 din (.list (nvs inn)) := by rw [← hS12]; exact .inl List.mem_cons_self
            have hpa12 := hpa11.up up12
            have hp12 := hp11.up up12
            have he12 := he11.up up12
            clear hS12 upA uF
            have hprng' : ∀ x, x < 9 → fpart x < 9 := fun x hx => by rw [hfp]; exact (hprng x hx).2
            clear hfp hwhl eL hgf hgrp' hprng hfs2 σ'
            repeat kt_at_item
            refine CK.more (least_ck (k := 0) hp12 he12 hT.lp hT.le (by omega) ?_ fun dF => ?_) (by decide)
            · intro l hl
              obtain ⟨t, ht, rfl⟩ := List.mem_map.mp hl
              exact htsf2 t ht
            rw [hleast]
            clear hleast
            refine GenE ((dF, AO.list ((((List.range' 0 9).filter fun x => decide (fpart x ∈ inn.map fun (i : Nat) => (i : Int))).map fun x => tagOf (fpart x).toNat x).map sv)) :: (HL fx fdx fdd fs ++ S12)) ?_
            intro S13 hS13
            have up13 : S12.Sublist S13 := by rw [← hS13]; exact (List.sublist_append_right _ _).trans (List.sublist_cons_self _ _)
            have hF13 : Rd (gh p) S13 dF (.list ((((List.range' 0 9).filter fun x => decide (fpart x ∈ inn.map fun (i : Nat) => (i : Int))).map fun x => tagOf (fpart x).toNat x).map sv)) := by rw [← hS13]; exact .inl List.mem_cons_self
            clear hS13
            repeat kt_at_item
            refine W.comp he (nvs (List.range' 0 9)) (fun _ _ => True) (fun _ i ys σ' => σ' = S13 ∧ ys = (((List.range' 0 9).take i).filter fun x => decide (fpart x ∈ inn.map fun (i : Nat) => (i : Int))).map fun x => sv (tagOf (fpart x).toNat x))
              [("parts", .ref dpa), ("inner", .ref din)] (by rfl) (by rfl) (by simp [nvs]) (by kt_at_in) ?_ (fun _ _ _ _ _ => trivial) ?_ (by intro _; rfl)
            · repeat kt_at_item
              refine CK.range1 fun R o ho => ?_
              refine ⟨It.rangeN (a := 0) (b := 9) (by decide) (by decide) List.mem_cons_self ho (fun _ _ => trivial), ⟨_, List.sublist_cons_self _ _, rfl, rfl⟩, by kt_at_in, ?_⟩
              rintro ys σ' dG ⟨e1, rfl⟩
              rw [e1]
              clear e1
              have eg : (((List.range' 0 9).take (nvs (List.range' 0 9)).length).filter fun x => decide (fpart x ∈ inn.map fun (i : Nat) => (i : Int))).map (fun x => sv (tagOf (fpart x).toNat x)) = (((List.range' 0 9).filter fun x => decide (fpart x ∈ inn.map fun (i : Nat) => (i : Int))).map fun x => tagOf (fpart x).toNat x).map sv := by
                rw [List.take_of_length_le (by simp [nvs]), List.map_map]; rfl
              rw [eg]
              clear eg
              revert hF13
              refine Gen0 (((List.range' 0 9).filter fun x => decide (fpart x ∈ inn.map fun (i : Nat) => (i : Int))).map (fun x => tagOf (fpart x).toNat x)) ?_
              intro fin hF13
              refine CO.eqL (R := RS) EqR.str ⟨dF, _, rfl, hF13.up (List.sublist_cons_self _ _), both_sv _⟩ ⟨dG, _, rfl, .inl List.mem_cons_self, both_sv _⟩ ?_
              rw [decide_eq_true rfl]
            · rintro xv cenv hce i v ys σ' hv ⟨e1, rfl⟩
              rw [e1]
              clear e1
              obtain ⟨hi, hv'⟩ := nvs_at hv
              have hi9 : i < 9 := by simpa using hi
              rw [range'_get hi, Nat.zero_add] at hv'
              subst hv'
              have htake : ((List.range' 0 9).take (i + 1)) = (List.range' 0 9).take i ++ [i] := by
                rw [List.take_succ_eq_append_getElem hi, range'_get hi, Nat.zero_add]
              rw [htake, List.filter_append, List.map_append]
              clear htake
              refine Gen0 ((((List.range' 0 9).take i).filter fun x => decide (fpart x ∈ inn.map fun (i : Nat) => (i : Int))).map (fun x => sv (tagOf (fpart x).toNat x))) ?_
              intro acc
              rw [List.filter_cons, List.filter_nil]
              have hpx := hparts' i hi9
              have hlt := hprng' i hi9
              refine WG.local (kind_of hce (by rfl)) ?_
              dsimp only [WTs]
              repeat kt_at_item
              refine SB.list (hpa12.up up13) (by first | exact Int.natCast_nonneg _ | omega) (by first | exact lt63 (by with_reducible assumption) | omega) hpx ?_
              repeat kt_at_item
              refine CO.inL (R := RI) EqR.int (c := fpart i) (cs := inn.map fun (i : Nat) => (i : Int)) rfl ⟨din, _, rfl, hin12.up up13, both_nvs inn⟩ ?_
              repeat kt_at_item
              by_cases hq : fpart i ∈ inn.map fun (i : Nat) => (i : Int)
              · obtain ⟨n, hn, e⟩ := List.mem_map.mp hq
                simp only [hq, decide_true, if_true, List.map_cons, List.map_nil]
                rw [← e] at hpx hlt ⊢
                rw [Int.toNat_natCast]
                repeat kt_at_item
                refine SB.list (hpa12.up up13) (by first | exact Int.natCast_nonneg _ | omega) (by first | exact lt63 (by with_reducible assumption) | omega) hpx ?_
                repeat kt_at_item
                refine CK.more (tag_ck (k := 0) (by omega) ?_) (by decide)
                exact ⟨⟨by first | exact rfl | exact trivial, by first | exact rfl | exact trivial⟩, by kt_at_in⟩
              · simp only [hq, decide_false, Bool.false_eq_true, if_false, List.map_nil, List.append_nil]
                exact ⟨⟨by first | exact rfl | exact trivial, by first | exact rfl | exact trivial⟩, by kt_at_in⟩
    · rintro ⟨t1, t2, t3⟩ xv i ys σ' ⟨tl, rs, Sr, rfl, hRl, _, _, _, _, _, _, _, hsb⟩
      exact ⟨tl, rfl, (hRl.up (List.sublist_append_right _ _)).sb hsb⟩
    · rintro ⟨t1, t2, t3⟩ xv cenv hce i v ys σ' hv ⟨tl, rs, Sr, rfl, hRl, hr1, hr2, hr3, rfl, lrs, up7r, hrs, hsb⟩
      dsimp only at hRl hr1 hr2 hr3 hv
      have hi : i < 3 := by have := (List.getElem?_eq_some_iff.mp hv).1; simpa using this
      have uR : Sr.Sublist (HL ix ixd idd ts ++ Sr) := List.sublist_append_right _ _
      obtain ⟨t, c, w, hc8, hw4, hci, htup, rfl⟩ : ∃ (t : Addr) (c w : Nat), c < 8 ∧ w < 4 ∧ c % 4 = i ∧ Rd (gh p) Sr t (.tup [sv (wordOf c), .int ((w : Nat) : Int) 0]) ∧ v = .ref t := by
        rcases lt3 hi with rfl | rfl | rfl
        · exact ⟨t1, 4, 1, by decide, by decide, rfl, hr1, (Option.some.inj hv).symm⟩
        · exact ⟨t2, 1, 2, by decide, by decide, rfl, hr2, (Option.some.inj hv).symm⟩
        · exact ⟨t3, 6, 3, by decide, by decide, rfl, hr3, (Option.some.inj hv).symm⟩
      refine WG.tuple ((htup.up uR).sb hsb) (by rfl) (by rfl) ?_
      refine WG.local (kind_of hce (by rfl)) (WG.local (kind_of hce (by rfl)) ?_)
      simp only [WGs, WTs, if_true]
      refine WV.sb hsb ?_
      obtain ⟨f1, f2, f3⟩ := name_facts ⟨c, hc8⟩
      obtain ⟨_, f4, f5⟩ := f3 ⟨w, hw4⟩
      dsimp only at f1 f2 f4 f5
      repeat kt_at_item
      refine W.selfFn (f := 148) (x := ix) (dx := ixd) (d := idd) (by kernel_rfl) (by kernel_rfl) (by rfl) (by kernel_rfl) ?_ (by rfl) (by rfl) (by rfl) (by rfl) (by rfl)
      repeat kt_at_item
      refine ⟨rfl, HL.ins, ?_⟩
      repeat kt_at_item
      refine CK.more (hand_ck (k := 0) hw4 (fun i hi => f5 ⟨i, hi⟩) ?_) (by decide)
      rw [f4]
      repeat kt_at_item
      have hplain : Plain (nameW c) := f1
      refine CK.more (getall_ck (k := 0) (n := nameW c) (by omega) hplain (plain_low hplain) (by omega) htsf fun dD => ?_) (by decide)
      have hq : ∀ j ∈ tuL turn, decide (((Wc.map nameW).getD j []).map lowC = (nameW c).map lowC) = decide (Wc.getD j 0 % 4 = i) := fun j hj => by
        have hj9 := tu_lt turn j hj
        rw [hNk j hj9, ← hci, decide_eq_decide]
        exact name_same ⟨_, hWk j hj9⟩ ⟨c, hc8⟩
      rw [get_named (q := fun j => decide (Wc.getD j 0 % 4 = i)) hts hq]
      repeat kt_at_item
      have env2 : nv (((tuL turn).filter fun j => decide (Wc.getD j 0 % 4 = i)).map fun j => P.getD j 0) = (((tuL turn).filter fun j => decide (Wc.getD j 0 % 4 = i)).map fun j => dig (P.getD j 0)).map sv := by
        unfold nv; rw [List.map_map, List.map_map]; rfl
      refine CK.more (row_ck (k := 0) (t := dD) (ns := ((tuL turn).filter fun j => decide (Wc.getD j 0 % 4 = i)).map fun j => P.getD j 0) (by rw [env2]; exact .inl List.mem_cons_self) ?_ ?_ fun dW => ?_) (by decide)
      · rw [List.length_map]
        have := List.length_filter_le (fun j => decide (Wc.getD j 0 % 4 = i)) (tuL turn)
        omega
      · intro n hn
        obtain ⟨j, hj, rfl⟩ := List.mem_map.mp hn
        exact hPk j (tu_lt turn j (List.mem_filter.mp hj).1)
      rw [rows_sorted hT turn Wc i]
      refine Gen0 ((((tuL turn).filter fun j => decide (Wc.getD j 0 % 4 = i)).map fun j => dig (P.getD j 0)).map sv) ?_
      intro junk
      have uu : Sr.Sublist ((dW, AO.list (iv (rowOf P Wc i))) :: (dD, AO.list junk) :: Sr) := (List.sublist_cons_self _ _).trans (List.sublist_cons_self _ _)
      refine ⟨⟨tl, rs ++ [dW], (dW, AO.list (iv (rowOf P Wc i))) :: (dD, AO.list junk) :: Sr, rfl, hRl.up uu, hr1.up uu, hr2.up uu, hr3.up uu, by simp, by simp [lrs], up7r.trans uu, ?_, Sb.mid [_, _] _ _⟩, by kt_at_in⟩
      intro j hj
      rcases Nat.lt_or_eq_of_le (Nat.lt_succ_iff.mp hj) with q | q
      · rw [getD_app_lt (by omega)]; exact uu.subset (hrs j q)
      · rw [getD_app_eq (by omega), q]; exact List.mem_cons_self
/- F21 -/
theorem In_sub {K K' : Frag} {h : Heap} (X : K'.In h) (e : K.map (fun p => K'.lookup p.1) = K.map (fun p => some p.2)) : K.In h := by
  intro a o ha
  have hm : (a, o) ∈ K := by
    clear e X
    induction K with
    | nil => cases ha
    | cons p r ih =>
      obtain ⟨b, q⟩ := p
      rw [List.lookup_cons] at ha
      by_cases hb : a = b
      · subst hb
        simp only [beq_self_eq_true] at ha
        cases ha
        exact List.mem_cons_self
      · have : (a == b) = false := by simpa using hb
        rw [this] at ha
        exact List.mem_cons_of_mem _ (ih ha)
  exact X a o (List.map_inj_left.mp e (a, o) hm)
theorem ints_iv {its : List Value} {ns : List Int} (h : IntsAre its ns) : its.map er = iv ns := by
  induction h with
  | nil => rfl
  | cons n t h ih => rw [List.map_cons, ih]; rfl
theorem fin {w : World} {s₁ : Shared} {mg mb : Str → Option Value} {fa a : Addr} {its : List Value} {ns : List Int} (KX : (Kh w.params).In s₁.heap) (hg : s₁.heap.Ns mainGlobals mg) (hb : s₁.heap.Ns builtinsNs mb) (nolimit : s₁.heap.NoLimit)
    (nodigits : ∃ mc, s₁.heap.Ns cStatics mc ∧ mc "sys.int_max_str_digits" = none) (builtins : ∀ x : Str, x ≠ "__name__" → mb x = bootBuiltins x) (hmg : mg (Str.ofString "law") = some (.ref fa)) (hgens : s₁.gens = #[]) (htk : 0 < s₁.toks)
    (ho : s₁.heap.get? a = some { cls := .type "list", data := .seq its.toArray }) (hI : IntsAre its ns) (hlen : ns.length ≤ 63) :
    wpAny (model PySem.Challenge.pw_uk0021_01 w) callerA (call (.ref fa) [.ref a]) (fun v s' => v = .bool true ∧ (∀ b o, s₁.heap.get? b = some o → s'.heap.get? b = some o) ∧ s'.os = s₁.os ∧ s'.gens = #[]) (fun _ _ => False) s₁ := by
  have hfa : mg (Str.ofString "law") = some (.ref 346) := mg_of KX hg (by kernel_rfl)
  rw [hfa] at hmg
  cases hmg
  have hl := law_ck (p := ⟨w, s₁.heap, s₁.os, mg, mb⟩) (σ := []) (a := a) (s := ns) (.inr ⟨_, ho, _, _, rfl, ints_iv hI⟩) hlen
  refine wpAny_mono (hl [.ref a] [] rfl rfl callerA (fun b => s₁.heap.get? b) s₁ ⟨rfl, by decide, by decide⟩ ⟨⟨KX, hg, hb, nolimit, nodigits, builtins⟩, fun _ _ e => e, fun _ _ e => e, List.nodup_nil, fun p hp => (nomatch hp), rfl, hgens, htk⟩) ?_ fun _ _ e => e
  rintro v s' ⟨σ', S', e⟩
  exact ⟨er_bool e, S'.keep, S'.os, S'.gens⟩
end
end Mine
section
open PySem PySem.W PySem.W.X PyProof.Rows
theorem PySem.Challenge.cw_uk0021_01_holds : PySem.Challenge.rw_uk0021_01.Holds := by
  refine holds_law Mine.law_said fun said => ?_
  refine holds_openX (q := Mine.view) (loose := Mine.looseN) (Xt := fun s => xlAt Mine.view [] s && recOk [] s) (XP := XL Mine.view []) (Yf := obsZ Mine.asK) (Ya := valZ Mine.Kh 347 772) (N := 3706) Mine.headL (fun s e => xl_of s (Bool.and_eq_true_iff.mp e).1) XL.keeps (by rfl) (by rfl) (by rfl) (fun s e => recFacts_of (Bool.and_eq_true_iff.mp e).2) (by rfl) (by first | assumption | decide +kernel) (by decide +kernel) ⟨rfl, rfl, rfl, rfl, rfl, by decide +kernel⟩ ?hw ?hc
  case hw => w_witness2
  intro w s₀ s₁ mg mb G y fa o pm cd doc dV kV ho hd hcd hD hmg hg args vals as L hpre hlay hrd hwl hlo
  have zf := z_facts Mine.asK_is y
  have KX : (Mine.Kh w.params).In s₁.heap := InK.keeps w s₀.heap s₁.heap zf.2.1 (Laid.keeps L)
  refine Ground.open G ?_
  intro T B D TE TW
  wrow_args hpre hlay hrd hwl hlo
  have htk := script_toks L zf.2.2.2
  rename_i hL _ _ _ hI _ hc _
  have hol := script_obj L hL
  refine wpAny_mono (Mine.fin KX T.g T.b T.nolimit T.nodigits T.builtins hmg hg (Nat.lt_of_lt_of_le (by decide) htk) hol hI (by omega)) ?_ fun _ _ e => e.elim
  rintro v s' ⟨rfl, k1, k2, k3⟩
  refine GoodW.toG ⟨.inl ⟨_, _, [], rfl, fun _ => rfl, ReadsW.bool true, ?_, fun _ => ⟨List.nodup_nil, fun _ hm => (nomatch hm)⟩⟩, k1, k2, k3⟩
  first | rfl | wrow_post
end
