import PyProof.Rows.All
import Wide.All
import OpenK.AllK
import Wide.FinOn
import KE.KRevIter
import KE.KPar
import KE.KBoundM
import KE.KItemsList
import PyProof.SliceList
import PyProof.RulesDelMore
import PyProof.Rows.AttrNodeAny
import PyProof.Rows.StrSub
import PyProof.CompUse
import PyProof.SetScanFacts
import PyProof.CollectWalk
import PyProof.FactsAll.set_1
import PyProof.SetRoads
import KE.KSortKey
import KE.KLam
import PyProof.DictCompW
import PyProof.DictRoads
import PyProof.DictTruth
import PyProof.ListIndexNeg
import KE.KSetDisp
import PyProof.Rows.StrSplitMax
import PyProof.AutoIntOps
import PyProof.RangeFor
import PyProof.IsiH_list
import PyProof.IsiH_set
import PyProof.EnumStmt
import PyProof.EnumMake
import PyProof.StrCalls2
import PyProof.IsRules
import PyProof.EqAt
import PyProof.StrLawsIn
import PyProof.Rows.StrLawsPart
import Lean
import PySem.Challenge.RW_rs0229_03
open PySem PySem.W PySem.Calls PyProof.Rows
set_option Elab.async false
set_option maxRecDepth 100000
set_option linter.all false
set_option compiler.extract_closed false
set_option genSizeOf false
set_option genInjectivity false
namespace R3
open PySem.W.X
local macro_rules | `(tactic| wtm_at "om") => `(tactic| first | lia | omega)
noncomputable def stAt (p : List Nat) : Option Stmt := match p with
  | [i] => Challenge.pw_rs0229_03.main.body[i]?
  | [i, j] => (match Challenge.pw_rs0229_03.main.body[i]? with | some (.ClassDef _ _ _ b _ _ _ _ _ _ _) => b[j]? | _ => none)
  | _ => none
noncomputable def grab {α β : Type} {x y : β} (_ : x = y) (a : α) : α := a
noncomputable def heapK (P : Params) : Frag := by
  refine grab (x := stAt [3, 0]) (y := some (.FunctionDef ?n52 ?A52 ?B52 ?d52 ?r52 ?t52 ?S52 ?u52 ?v52 ?p52)) ?h52 ?_
  case h52 => with_unfolding_all rfl
  refine grab (x := stAt [3, 2]) (y := some (.FunctionDef ?n66 ?A66 ?B66 ?d66 ?r66 ?t66 ?S66 ?u66 ?v66 ?p66)) ?h66 ?_
  case h66 => with_unfolding_all rfl
  refine grab (x := stAt [4]) (y := some (.FunctionDef ?n87 ?A87 ?B87 ?d87 ?r87 ?t87 ?S87 ?u87 ?v87 ?p87)) ?h87 ?_
  case h87 => with_unfolding_all rfl
  refine grab (x := stAt [10, 0]) (y := some (.FunctionDef ?n116 ?A116 ?B116 ?d116 ?r116 ?t116 ?S116 ?u116 ?v116 ?p116)) ?h116 ?_
  case h116 => with_unfolding_all rfl
  refine grab (x := stAt [10, 1]) (y := some (.FunctionDef ?n124 ?A124 ?B124 ?d124 ?r124 ?t124 ?S124 ?u124 ?v124 ?p124)) ?h124 ?_
  case h124 => with_unfolding_all rfl
  refine grab (x := stAt [10, 3]) (y := some (.FunctionDef ?n139 ?A139 ?B139 ?d139 ?r139 ?t139 ?S139 ?u139 ?v139 ?p139)) ?h139 ?_
  case h139 => with_unfolding_all rfl
  refine grab (x := stAt [10, 4]) (y := some (.FunctionDef ?n146 ?A146 ?B146 ?d146 ?r146 ?t146 ?S146 ?u146 ?v146 ?p146)) ?h146 ?_
  case h146 => with_unfolding_all rfl
  refine grab (x := stAt [10, 5]) (y := some (.FunctionDef ?n155 ?A155 ?B155 ?d155 ?r155 ?t155 ?S155 ?u155 ?v155 ?p155)) ?h155 ?_
  case h155 => with_unfolding_all rfl
  refine grab (x := stAt [10, 7]) (y := some (.FunctionDef ?n169 ?A169 ?B169 ?d169 ?r169 ?t169 ?S169 ?u169 ?v169 ?p169)) ?h169 ?_
  case h169 => with_unfolding_all rfl
  refine grab (x := stAt [10, 8]) (y := some (.FunctionDef ?n175 ?A175 ?B175 ?d175 ?r175 ?t175 ?S175 ?u175 ?v175 ?p175)) ?h175 ?_
  case h175 => with_unfolding_all rfl
  refine grab (x := stAt [10, 9]) (y := some (.FunctionDef ?n182 ?A182 ?B182 ?d182 ?r182 ?t182 ?S182 ?u182 ?v182 ?p182)) ?h182 ?_
  case h182 => with_unfolding_all rfl
  refine grab (x := stAt [11]) (y := some (.FunctionDef ?n210 ?A210 ?B210 ?d210 ?r210 ?t210 ?S210 ?u210 ?v210 ?p210)) ?h210 ?_
  case h210 => with_unfolding_all rfl
  refine grab (x := stAt [12]) (y := some (.FunctionDef ?n217 ?A217 ?B217 ?d217 ?r217 ?t217 ?S217 ?u217 ?v217 ?p217)) ?h217 ?_
  case h217 => with_unfolding_all rfl
  refine grab (x := stAt [14]) (y := some (.FunctionDef ?n224 ?A224 ?B224 ?d224 ?r224 ?t224 ?S224 ?u224 ?v224 ?p224)) ?h224 ?_
  case h224 => with_unfolding_all rfl
  refine grab (x := stAt [15]) (y := some (.FunctionDef ?n229 ?A229 ?B229 ?d229 ?r229 ?t229 ?S229 ?u229 ?v229 ?p229)) ?h229 ?_
  case h229 => with_unfolding_all rfl
  refine grab (x := stAt [16]) (y := some (.FunctionDef ?n234 ?A234 ?B234 ?d234 ?r234 ?t234 ?S234 ?u234 ?v234 ?p234)) ?h234 ?_
  case h234 => with_unfolding_all rfl
  refine grab (x := stAt [17]) (y := some (.FunctionDef ?n241 ?A241 ?B241 ?d241 ?r241 ?t241 ?S241 ?u241 ?v241 ?p241)) ?h241 ?_
  case h241 => with_unfolding_all rfl
  refine grab (x := stAt [18]) (y := some (.FunctionDef ?n246 ?A246 ?B246 ?d246 ?r246 ?t246 ?S246 ?u246 ?v246 ?p246)) ?h246 ?_
  case h246 => with_unfolding_all rfl
  refine grab (x := stAt [19]) (y := some (.FunctionDef ?n251 ?A251 ?B251 ?d251 ?r251 ?t251 ?S251 ?u251 ?v251 ?p251)) ?h251 ?_
  case h251 => with_unfolding_all rfl
  exact [
    (3, { cls := Value.type "dict", data := Data.dict #[{ hash := PyData.keyHash P (Str.ofString "__name__"), key := Value.str (Str.ofString "__name__") 165, val := Value.str (Str.ofString "law_rs0229_03") 608 }, { hash := PyData.keyHash P (Str.ofString "__doc__"), key := Value.str (Str.ofString "__doc__") 166, val := Value.none }, { hash := PyData.keyHash P (Str.ofString "__package__"), key := Value.str (Str.ofString "__package__") 167, val := Value.none }, { hash := PyData.keyHash P (Str.ofString "__loader__"), key := Value.str (Str.ofString "__loader__") 168, val := Value.builtin "__main__.__loader__#opaque" }, { hash := PyData.keyHash P (Str.ofString "__spec__"), key := Value.str (Str.ofString "__spec__") 169, val := Value.none }, { hash := PyData.keyHash P (Str.ofString "__annotations__"), key := Value.str (Str.ofString "__annotations__") 170, val := Value.ref 6 }, { hash := PyData.keyHash P (Str.ofString "__builtins__"), key := Value.str (Str.ofString "__builtins__") 171, val := Value.ref 4 }, { hash := PyData.keyHash P (Str.ofString "__file__"), key := Value.str (Str.ofString "__file__") 173, val := Value.str (Str.ofString "/claim/cut.py") 172 }, { hash := PyData.keyHash P (Str.ofString "__cached__"), key := Value.str (Str.ofString "__cached__") 174, val := Value.none }, { hash := PyData.keyHash P (Str.ofString "_sre"), key := Value.str (Str.ofString "_sre") 275, val := Value.ref 12 }, { hash := PyData.keyHash P (Str.ofString "_wall"), key := Value.str (Str.ofString "_wall") 288, val := Value.ref 38 }, { hash := PyData.keyHash P (Str.ofString "Entry"), key := Value.str (Str.ofString "Entry") 348, val := Value.ref 76 }, { hash := PyData.keyHash P (Str.ofString "merge_entries"), key := Value.str (Str.ofString "merge_entries") 357, val := Value.ref 87 }, { hash := PyData.keyHash P (Str.ofString "_twin_re_1"), key := Value.str (Str.ofString "_twin_re_1") 397, val := Value.ref 92 }, { hash := PyData.keyHash P (Str.ofString "_namespace_map"), key := Value.str (Str.ofString "_namespace_map") 419, val := Value.ref 93 }, { hash := PyData.keyHash P (Str.ofString "_raise_serialization_error"), key := Value.str (Str.ofString "_raise_serialization_error") 426, val := Value.ref 100 }, { hash := PyData.keyHash P (Str.ofString "_looks_like_prefix_name"), key := Value.str (Str.ofString "_looks_like_prefix_name") 428, val := Value.ref 101 }, { hash := PyData.keyHash P (Str.ofString "C14NWriterTarget"), key := Value.str (Str.ofString "C14NWriterTarget") 593, val := Value.ref 199 }, { hash := PyData.keyHash P (Str.ofString "_escape_cdata_c14n"), key := Value.str (Str.ofString "_escape_cdata_c14n") 600, val := Value.ref 210 }, { hash := PyData.keyHash P (Str.ofString "_escape_attrib_c14n"), key := Value.str (Str.ofString "_escape_attrib_c14n") 607, val := Value.ref 217 }, { hash := PyData.keyHash P (Str.ofString "_law_record"), key := Value.str (Str.ofString "_law_record") 617, val := Value.ref 224 }, { hash := PyData.keyHash P (Str.ofString "_law_spelled"), key := Value.str (Str.ofString "_law_spelled") 623, val := Value.ref 229 }, { hash := PyData.keyHash P (Str.ofString "_law_words"), key := Value.str (Str.ofString "_law_words") 629, val := Value.ref 234 }, { hash := PyData.keyHash P (Str.ofString "_law_tell"), key := Value.str (Str.ofString "_law_tell") 639, val := Value.ref 241 }, { hash := PyData.keyHash P (Str.ofString "_law_page"), key := Value.str (Str.ofString "_law_page") 645, val := Value.ref 246 }, { hash := PyData.keyHash P (Str.ofString "law"), key := Value.str (Str.ofString "law") 651, val := Value.ref 251 }] 26 }),
    (37, { cls := Value.type "code", data := Data.fields #[Value.str (Str.ofString "_wall") 282, Value.str (Str.ofString "_wall") 283, Value.str (Str.ofString "/claim/cut.py") 284, Value.int 2 0, Value.int 1 0, Value.int 0 0, Value.int 0 0, Value.int 3 0, Value.ref 32, Value.bool true, Value.int 276 0, Value.ref 33, Value.none, Value.ref 34, Value.ref 35, Value.ref 36, Value.int 286 0, Value.int 2 0, Value.str (Str.ofString "/claim/cut.py") 287] }),
    (51, { cls := Value.type "code", data := Data.fields #[Value.str (Str.ofString "__init__") 303, Value.str (Str.ofString "Entry.__init__") 304, Value.str (Str.ofString "/claim/cut.py") 305, Value.int 8 0, Value.int 1 0, Value.int 0 0, Value.int 0 0, Value.int 3 0, Value.ref 46, Value.bool true, Value.int 276 0, Value.ref 47, Value.none, Value.ref 48, Value.ref 49, Value.ref 50, Value.int 307 0, Value.int 8 0, Value.str (Str.ofString "/claim/cut.py") 308] }),
    (52, { cls := Value.type "function", data := Data.func { name := Str.ofString "__init__", qualname := Str.ofString "Entry.__init__", params := ?A52, body := .stmts ?B52, scope := ?S52, globals := 3, closure := [], defaults := Value.none, kwdefaults := Value.none, pyModule := Value.str (Str.ofString "cpy313.urllib.robotparser") 289, code := Value.ref 51 } }),
    (58, { cls := Value.type "code", data := Data.fields #[Value.str (Str.ofString "__str__") 310, Value.str (Str.ofString "Entry.__str__") 311, Value.str (Str.ofString "/claim/cut.py") 312, Value.int 14 0, Value.int 1 0, Value.int 0 0, Value.int 0 0, Value.int 3 0, Value.ref 53, Value.bool true, Value.int 276 0, Value.ref 54, Value.none, Value.ref 55, Value.ref 56, Value.ref 57, Value.int 317 0, Value.int 14 0, Value.str (Str.ofString "/claim/cut.py") 318] }),
    (65, { cls := Value.type "code", data := Data.fields #[Value.str (Str.ofString "applies_to") 320, Value.str (Str.ofString "Entry.applies_to") 321, Value.str (Str.ofString "/claim/cut.py") 322, Value.int 31 0, Value.int 2 0, Value.int 0 0, Value.int 0 0, Value.int 3 0, Value.ref 60, Value.bool true, Value.int 276 0, Value.ref 61, Value.none, Value.ref 62, Value.ref 63, Value.ref 64, Value.int 326 0, Value.int 31 0, Value.str (Str.ofString "/claim/cut.py") 327] }),
    (66, { cls := Value.type "function", data := Data.func { name := Str.ofString "applies_to", qualname := Str.ofString "Entry.applies_to", params := ?A66, body := .stmts ?B66, scope := ?S66, globals := 3, closure := [], defaults := Value.none, kwdefaults := Value.none, pyModule := Value.str (Str.ofString "cpy313.urllib.robotparser") 289, code := Value.ref 65 } }),
    (72, { cls := Value.type "code", data := Data.fields #[Value.str (Str.ofString "allowance") 329, Value.str (Str.ofString "Entry.allowance") 330, Value.str (Str.ofString "/claim/cut.py") 331, Value.int 42 0, Value.int 2 0, Value.int 0 0, Value.int 0 0, Value.int 3 0, Value.ref 67, Value.bool true, Value.int 276 0, Value.ref 68, Value.none, Value.ref 69, Value.ref 70, Value.ref 71, Value.int 334 0, Value.int 42 0, Value.str (Str.ofString "/claim/cut.py") 335] }),
    (74, { cls := Value.type "tuple", data := Data.seq #[Value.str (Str.ofString "delay") 337, Value.str (Str.ofString "req_rate") 338, Value.str (Str.ofString "rulelines") 339, Value.str (Str.ofString "useragents") 340] }),
    (75, { cls := Value.type "dict", data := Data.dict #[{ hash := PyData.keyHash P (Str.ofString "__module__"), key := Value.str (Str.ofString "__module__") 298, val := Value.str (Str.ofString "cpy313.urllib.robotparser") 289 }, { hash := PyData.keyHash P (Str.ofString "__firstlineno__"), key := Value.str (Str.ofString "__firstlineno__") 302, val := Value.int 6 301 }, { hash := PyData.keyHash P (Str.ofString "__init__"), key := Value.str (Str.ofString "__init__") 309, val := Value.ref 52 }, { hash := PyData.keyHash P (Str.ofString "__str__"), key := Value.str (Str.ofString "__str__") 319, val := Value.ref 59 }, { hash := PyData.keyHash P (Str.ofString "applies_to"), key := Value.str (Str.ofString "applies_to") 328, val := Value.ref 66 }, { hash := PyData.keyHash P (Str.ofString "allowance"), key := Value.str (Str.ofString "allowance") 336, val := Value.ref 73 }, { hash := PyData.keyHash P (Str.ofString "__static_attributes__"), key := Value.str (Str.ofString "__static_attributes__") 341, val := Value.ref 74 }, { hash := PyData.keyHash P (Str.ofString "__dict__"), key := Value.str (Str.ofString "__dict__") 343, val := Value.ref 77 }, { hash := PyData.keyHash P (Str.ofString "__weakref__"), key := Value.str (Str.ofString "__weakref__") 345, val := Value.ref 78 }, { hash := PyData.keyHash P (Str.ofString "__doc__"), key := Value.str (Str.ofString "__doc__") 346, val := Value.none }] 4 }),
    (76, { cls := Value.type "type", data := Data.cls { name := Str.ofString "Entry", bases := [Value.type "object"], mro := [Value.ref 76, Value.type "object"], ns := 75, qualname := Str.ofString "Entry" }, slots := #[none, none, some (Value.str (Str.ofString "Entry") 291), some (Value.str (Str.ofString "Entry") 299), some (Value.builtin "object.__new__"), some (Value.bool true)] }),
    (77, { cls := Value.type "getset_descriptor", data := Data.fields #[Value.str (Str.ofString "__dict__") 342, Value.ref 76, Value.builtin "function.__dict__", Value.builtin "function.__dict__#set"] }),
    (78, { cls := Value.type "getset_descriptor", data := Data.fields #[Value.str (Str.ofString "__weakref__") 344, Value.ref 76, Value.builtin "ExceptionGroup.__weakref__", Value.none] }),
    (86, { cls := Value.type "code", data := Data.fields #[Value.str (Str.ofString "merge_entries") 349, Value.str (Str.ofString "merge_entries") 350, Value.str (Str.ofString "/claim/cut.py") 351, Value.int 44 0, Value.int 2 0, Value.int 0 0, Value.int 0 0, Value.int 3 0, Value.ref 81, Value.bool true, Value.int 276 0, Value.ref 82, Value.none, Value.ref 83, Value.ref 84, Value.ref 85, Value.int 355 0, Value.int 44 0, Value.str (Str.ofString "/claim/cut.py") 356] }),
    (87, { cls := Value.type "function", data := Data.func { name := Str.ofString "merge_entries", qualname := Str.ofString "merge_entries", params := ?A87, body := .stmts ?B87, scope := ?S87, globals := 3, closure := [], defaults := Value.none, kwdefaults := Value.none, pyModule := Value.str (Str.ofString "cpy313.urllib.robotparser") 289, code := Value.ref 86 } }),
    (91, { cls := Value.type "tuple", data := Data.seq #[Value.int 14 0, Value.int 4 0, Value.int 0 0, Value.int 3 0, Value.int 4294967295 0, Value.int 6 0, Value.int 0 0, Value.int 24 0, Value.int 9 0, Value.int 1 0, Value.int 4294967295 0, Value.int 13 0, Value.int 4 0, Value.int 8 0, Value.int 14 0, Value.int 0 0, Value.int 1 0, Value.int 16 0, Value.int 58 0, Value.int 24 0, Value.int 9 0, Value.int 1 0, Value.int 4294967295 0, Value.int 13 0, Value.int 4 0, Value.int 8 0, Value.int 14 0, Value.int 0 0, Value.int 1 0, Value.int 6 0, Value.int 5 0, Value.int 1 0] }),
    (92, { cls := Value.type "re.Pattern", data := Data.fields #[Value.str (Str.ofString "^\\w+:\\w+$") 361, Value.int 32 396, Value.int 0 0, Value.none, Value.none, Value.ref 91, Value.int 0 0] }),
    (93, { cls := Value.type "dict", data := Data.dict #[{ hash := PyData.keyHash P (Str.ofString "http://www.w3.org/XML/1998/namespace"), key := Value.str (Str.ofString "http://www.w3.org/XML/1998/namespace") 398, val := Value.str (Str.ofString "xml") 399 }, { hash := PyData.keyHash P (Str.ofString "http://www.w3.org/1999/xhtml"), key := Value.str (Str.ofString "http://www.w3.org/1999/xhtml") 400, val := Value.str (Str.ofString "html") 401 }, { hash := PyData.keyHash P (Str.ofString "http://www.w3.org/1999/02/22-rdf-syntax-ns#"), key := Value.str (Str.ofString "http://www.w3.org/1999/02/22-rdf-syntax-ns#") 402, val := Value.str (Str.ofString "rdf") 403 }, { hash := PyData.keyHash P (Str.ofString "http://schemas.xmlsoap.org/wsdl/"), key := Value.str (Str.ofString "http://schemas.xmlsoap.org/wsdl/") 404, val := Value.str (Str.ofString "wsdl") 405 }, { hash := PyData.keyHash P (Str.ofString "http://www.w3.org/2001/XMLSchema"), key := Value.str (Str.ofString "http://www.w3.org/2001/XMLSchema") 406, val := Value.str (Str.ofString "xs") 407 }, { hash := PyData.keyHash P (Str.ofString "http://www.w3.org/2001/XMLSchema-instance"), key := Value.str (Str.ofString "http://www.w3.org/2001/XMLSchema-instance") 408, val := Value.str (Str.ofString "xsi") 409 }, { hash := PyData.keyHash P (Str.ofString "http://purl.org/dc/elements/1.1/"), key := Value.str (Str.ofString "http://purl.org/dc/elements/1.1/") 410, val := Value.str (Str.ofString "dc") 411 }] 7 }),
    (99, { cls := Value.type "code", data := Data.fields #[Value.str (Str.ofString "_raise_serialization_error") 420, Value.str (Str.ofString "_raise_serialization_error") 421, Value.str (Str.ofString "/claim/cut.py") 422, Value.int 54 0, Value.int 1 0, Value.int 0 0, Value.int 0 0, Value.int 3 0, Value.ref 94, Value.bool true, Value.int 276 0, Value.ref 95, Value.none, Value.ref 96, Value.ref 97, Value.ref 98, Value.int 424 0, Value.int 54 0, Value.str (Str.ofString "/claim/cut.py") 425] }),
    (101, { cls := Value.type "builtin_function_or_method", data := Data.fields #[Value.builtin "re.Pattern.match", Value.ref 92] }),
    (109, { cls := Value.type "dict", data := Data.dict #[{ hash := PyData.keyHash P (Str.ofString "with_comments"), key := Value.str (Str.ofString "with_comments") 441, val := Value.bool false }, { hash := PyData.keyHash P (Str.ofString "strip_text"), key := Value.str (Str.ofString "strip_text") 442, val := Value.bool false }, { hash := PyData.keyHash P (Str.ofString "rewrite_prefixes"), key := Value.str (Str.ofString "rewrite_prefixes") 443, val := Value.bool false }, { hash := PyData.keyHash P (Str.ofString "qname_aware_tags"), key := Value.str (Str.ofString "qname_aware_tags") 444, val := Value.none }, { hash := PyData.keyHash P (Str.ofString "qname_aware_attrs"), key := Value.str (Str.ofString "qname_aware_attrs") 445, val := Value.none }, { hash := PyData.keyHash P (Str.ofString "exclude_attrs"), key := Value.str (Str.ofString "exclude_attrs") 446, val := Value.none }, { hash := PyData.keyHash P (Str.ofString "exclude_tags"), key := Value.str (Str.ofString "exclude_tags") 447, val := Value.none }] 7 }),
    (115, { cls := Value.type "code", data := Data.fields #[Value.str (Str.ofString "__init__") 448, Value.str (Str.ofString "C14NWriterTarget.__init__") 449, Value.str (Str.ofString "/claim/cut.py") 450, Value.int 59 0, Value.int 2 0, Value.int 0 0, Value.int 7 0, Value.int 3 0, Value.ref 110, Value.bool true, Value.int 276 0, Value.ref 111, Value.none, Value.ref 112, Value.ref 113, Value.ref 114, Value.int 460 0, Value.int 59 0, Value.str (Str.ofString "/claim/cut.py") 461] }),
    (116, { cls := Value.type "function", data := Data.func { name := Str.ofString "__init__", qualname := Str.ofString "C14NWriterTarget.__init__", params := ?A116, body := .stmts ?B116, scope := ?S116, globals := 3, closure := [], defaults := Value.none, kwdefaults := Value.ref 109, pyModule := Value.str (Str.ofString "cpy313.xml.etree.ElementTree") 358, code := Value.ref 115 } }),
    (117, { cls := Value.type "tuple", data := Data.seq #[Value.type "reversed"] }),
    (123, { cls := Value.type "code", data := Data.fields #[Value.str (Str.ofString "_iter_namespaces") 463, Value.str (Str.ofString "C14NWriterTarget._iter_namespaces") 464, Value.str (Str.ofString "/claim/cut.py") 465, Value.int 87 0, Value.int 3 0, Value.int 0 0, Value.int 0 0, Value.int 35 0, Value.ref 118, Value.bool true, Value.int 276 0, Value.ref 119, Value.none, Value.ref 120, Value.ref 121, Value.ref 122, Value.int 470 0, Value.int 87 0, Value.str (Str.ofString "/claim/cut.py") 471] }),
    (124, { cls := Value.type "function", data := Data.func { name := Str.ofString "_iter_namespaces", qualname := Str.ofString "C14NWriterTarget._iter_namespaces", params := ?A124, body := .stmts ?B124, scope := ?S124, globals := 3, closure := [], defaults := Value.ref 117, kwdefaults := Value.none, pyModule := Value.str (Str.ofString "cpy313.xml.etree.ElementTree") 358, code := Value.ref 123 } }),
    (130, { cls := Value.type "code", data := Data.fields #[Value.str (Str.ofString "_resolve_prefix_name") 473, Value.str (Str.ofString "C14NWriterTarget._resolve_prefix_name") 474, Value.str (Str.ofString "/claim/cut.py") 475, Value.int 92 0, Value.int 2 0, Value.int 0 0, Value.int 0 0, Value.int 3 0, Value.ref 125, Value.bool true, Value.int 276 0, Value.ref 126, Value.none, Value.ref 127, Value.ref 128, Value.ref 129, Value.int 482 0, Value.int 92 0, Value.str (Str.ofString "/claim/cut.py") 483] }),
    (132, { cls := Value.type "tuple", data := Data.seq #[Value.none] }),
    (138, { cls := Value.type "code", data := Data.fields #[Value.str (Str.ofString "_qname") 485, Value.str (Str.ofString "C14NWriterTarget._qname") 486, Value.str (Str.ofString "/claim/cut.py") 487, Value.int 99 0, Value.int 3 0, Value.int 0 0, Value.int 0 0, Value.int 3 0, Value.ref 133, Value.bool true, Value.int 276 0, Value.ref 134, Value.none, Value.ref 135, Value.ref 136, Value.ref 137, Value.int 495 0, Value.int 99 0, Value.str (Str.ofString "/claim/cut.py") 496] }),
    (139, { cls := Value.type "function", data := Data.func { name := Str.ofString "_qname", qualname := Str.ofString "C14NWriterTarget._qname", params := ?A139, body := .stmts ?B139, scope := ?S139, globals := 3, closure := [], defaults := Value.ref 132, kwdefaults := Value.none, pyModule := Value.str (Str.ofString "cpy313.xml.etree.ElementTree") 358, code := Value.ref 138 } }),
    (145, { cls := Value.type "code", data := Data.fields #[Value.str (Str.ofString "data") 498, Value.str (Str.ofString "C14NWriterTarget.data") 499, Value.str (Str.ofString "/claim/cut.py") 500, Value.int 126 0, Value.int 2 0, Value.int 0 0, Value.int 0 0, Value.int 3 0, Value.ref 140, Value.bool true, Value.int 276 0, Value.ref 141, Value.none, Value.ref 142, Value.ref 143, Value.ref 144, Value.int 503 0, Value.int 126 0, Value.str (Str.ofString "/claim/cut.py") 504] }),
    (146, { cls := Value.type "function", data := Data.func { name := Str.ofString "data", qualname := Str.ofString "C14NWriterTarget.data", params := ?A146, body := .stmts ?B146, scope := ?S146, globals := 3, closure := [], defaults := Value.none, kwdefaults := Value.none, pyModule := Value.str (Str.ofString "cpy313.xml.etree.ElementTree") 358, code := Value.ref 145 } }),
    (147, { cls := Value.type "builtin_function_or_method", data := Data.fields #[Value.builtin "str.join", Value.str (Str.ofString "") 506] }),
    (148, { cls := Value.type "tuple", data := Data.seq #[Value.ref 147] }),
    (154, { cls := Value.type "code", data := Data.fields #[Value.str (Str.ofString "_flush") 508, Value.str (Str.ofString "C14NWriterTarget._flush") 509, Value.str (Str.ofString "/claim/cut.py") 510, Value.int 130 0, Value.int 2 0, Value.int 0 0, Value.int 0 0, Value.int 3 0, Value.ref 149, Value.bool true, Value.int 276 0, Value.ref 150, Value.none, Value.ref 151, Value.ref 152, Value.ref 153, Value.int 516 0, Value.int 130 0, Value.str (Str.ofString "/claim/cut.py") 517] }),
    (155, { cls := Value.type "function", data := Data.func { name := Str.ofString "_flush", qualname := Str.ofString "C14NWriterTarget._flush", params := ?A155, body := .stmts ?B155, scope := ?S155, globals := 3, closure := [], defaults := Value.ref 148, kwdefaults := Value.none, pyModule := Value.str (Str.ofString "cpy313.xml.etree.ElementTree") 358, code := Value.ref 154 } }),
    (161, { cls := Value.type "code", data := Data.fields #[Value.str (Str.ofString "start_ns") 519, Value.str (Str.ofString "C14NWriterTarget.start_ns") 520, Value.str (Str.ofString "/claim/cut.py") 521, Value.int 144 0, Value.int 3 0, Value.int 0 0, Value.int 0 0, Value.int 3 0, Value.ref 156, Value.bool true, Value.int 276 0, Value.ref 157, Value.none, Value.ref 158, Value.ref 159, Value.ref 160, Value.int 525 0, Value.int 144 0, Value.str (Str.ofString "/claim/cut.py") 526] }),
    (168, { cls := Value.type "code", data := Data.fields #[Value.str (Str.ofString "start") 528, Value.str (Str.ofString "C14NWriterTarget.start") 529, Value.str (Str.ofString "/claim/cut.py") 530, Value.int 147 0, Value.int 3 0, Value.int 0 0, Value.int 0 0, Value.int 3 0, Value.ref 163, Value.bool true, Value.int 276 0, Value.ref 164, Value.none, Value.ref 165, Value.ref 166, Value.ref 167, Value.int 535 0, Value.int 147 0, Value.str (Str.ofString "/claim/cut.py") 536] }),
    (169, { cls := Value.type "function", data := Data.func { name := Str.ofString "start", qualname := Str.ofString "C14NWriterTarget.start", params := ?A169, body := .stmts ?B169, scope := ?S169, globals := 3, closure := [], defaults := Value.none, kwdefaults := Value.none, pyModule := Value.str (Str.ofString "cpy313.xml.etree.ElementTree") 358, code := Value.ref 168 } }),
    (170, { cls := Value.type "tuple", data := Data.seq #[Value.none] }),
    (174, { cls := Value.type "code", data := Data.fields #[Value.str (Str.ofString "_start") 538, Value.str (Str.ofString "C14NWriterTarget._start") 539, Value.str (Str.ofString "/claim/cut.py") 540, Value.int 160 0, Value.int 5 0, Value.int 0 0, Value.int 0 0, Value.int 3 0, Value.ref 171, Value.bool true, Value.int 276 0, Value.ref 172, Value.none, Value.none, Value.none, Value.ref 173, Value.int 541 0, Value.int 160 0, Value.str (Str.ofString "/claim/cut.py") 542] }),
    (175, { cls := Value.type "function", data := Data.func { name := Str.ofString "_start", qualname := Str.ofString "C14NWriterTarget._start", params := ?A175, body := .stmts ?B175, scope := ?S175, globals := 3, closure := [], defaults := Value.ref 170, kwdefaults := Value.none, pyModule := Value.str (Str.ofString "cpy313.xml.etree.ElementTree") 358, code := Value.ref 174 } }),
    (181, { cls := Value.type "code", data := Data.fields #[Value.str (Str.ofString "end") 544, Value.str (Str.ofString "C14NWriterTarget.end") 545, Value.str (Str.ofString "/claim/cut.py") 546, Value.int 205 0, Value.int 2 0, Value.int 0 0, Value.int 0 0, Value.int 3 0, Value.ref 176, Value.bool true, Value.int 276 0, Value.ref 177, Value.none, Value.ref 178, Value.ref 179, Value.ref 180, Value.int 549 0, Value.int 205 0, Value.str (Str.ofString "/claim/cut.py") 550] }),
    (182, { cls := Value.type "function", data := Data.func { name := Str.ofString "end", qualname := Str.ofString "C14NWriterTarget.end", params := ?A182, body := .stmts ?B182, scope := ?S182, globals := 3, closure := [], defaults := Value.none, kwdefaults := Value.none, pyModule := Value.str (Str.ofString "cpy313.xml.etree.ElementTree") 358, code := Value.ref 181 } }),
    (188, { cls := Value.type "code", data := Data.fields #[Value.str (Str.ofString "comment") 552, Value.str (Str.ofString "C14NWriterTarget.comment") 553, Value.str (Str.ofString "/claim/cut.py") 554, Value.int 217 0, Value.int 2 0, Value.int 0 0, Value.int 0 0, Value.int 3 0, Value.ref 183, Value.bool true, Value.int 276 0, Value.ref 184, Value.none, Value.ref 185, Value.ref 186, Value.ref 187, Value.int 557 0, Value.int 217 0, Value.str (Str.ofString "/claim/cut.py") 558] }),
    (195, { cls := Value.type "code", data := Data.fields #[Value.str (Str.ofString "pi") 560, Value.str (Str.ofString "C14NWriterTarget.pi") 561, Value.str (Str.ofString "/claim/cut.py") 562, Value.int 220 0, Value.int 3 0, Value.int 0 0, Value.int 0 0, Value.int 3 0, Value.ref 190, Value.bool true, Value.int 276 0, Value.ref 191, Value.none, Value.ref 192, Value.ref 193, Value.ref 194, Value.int 566 0, Value.int 220 0, Value.str (Str.ofString "/claim/cut.py") 567] }),
    (197, { cls := Value.type "tuple", data := Data.seq #[Value.str (Str.ofString "_data") 569, Value.str (Str.ofString "_declared_ns_stack") 570, Value.str (Str.ofString "_exclude_attrs") 571, Value.str (Str.ofString "_exclude_tags") 572, Value.str (Str.ofString "_find_qname_aware_attrs") 573, Value.str (Str.ofString "_ignored_depth") 574, Value.str (Str.ofString "_ns_stack") 575, Value.str (Str.ofString "_pending_start") 576, Value.str (Str.ofString "_prefix_map") 577, Value.str (Str.ofString "_preserve_space") 578, Value.str (Str.ofString "_qname_aware_tags") 579, Value.str (Str.ofString "_rewrite_prefixes") 580, Value.str (Str.ofString "_root_done") 581, Value.str (Str.ofString "_root_seen") 582, Value.str (Str.ofString "_strip_text") 583, Value.str (Str.ofString "_with_comments") 584, Value.str (Str.ofString "_write") 585] }),
    (198, { cls := Value.type "dict", data := Data.dict #[{ hash := PyData.keyHash P (Str.ofString "__module__"), key := Value.str (Str.ofString "__module__") 436, val := Value.str (Str.ofString "cpy313.xml.etree.ElementTree") 358 }, { hash := PyData.keyHash P (Str.ofString "__firstlineno__"), key := Value.str (Str.ofString "__firstlineno__") 440, val := Value.int 57 439 }, { hash := PyData.keyHash P (Str.ofString "__init__"), key := Value.str (Str.ofString "__init__") 462, val := Value.ref 116 }, { hash := PyData.keyHash P (Str.ofString "_iter_namespaces"), key := Value.str (Str.ofString "_iter_namespaces") 472, val := Value.ref 124 }, { hash := PyData.keyHash P (Str.ofString "_resolve_prefix_name"), key := Value.str (Str.ofString "_resolve_prefix_name") 484, val := Value.ref 131 }, { hash := PyData.keyHash P (Str.ofString "_qname"), key := Value.str (Str.ofString "_qname") 497, val := Value.ref 139 }, { hash := PyData.keyHash P (Str.ofString "data"), key := Value.str (Str.ofString "data") 505, val := Value.ref 146 }, { hash := PyData.keyHash P (Str.ofString "_flush"), key := Value.str (Str.ofString "_flush") 518, val := Value.ref 155 }, { hash := PyData.keyHash P (Str.ofString "start_ns"), key := Value.str (Str.ofString "start_ns") 527, val := Value.ref 162 }, { hash := PyData.keyHash P (Str.ofString "start"), key := Value.str (Str.ofString "start") 537, val := Value.ref 169 }, { hash := PyData.keyHash P (Str.ofString "_start"), key := Value.str (Str.ofString "_start") 543, val := Value.ref 175 }, { hash := PyData.keyHash P (Str.ofString "end"), key := Value.str (Str.ofString "end") 551, val := Value.ref 182 }, { hash := PyData.keyHash P (Str.ofString "comment"), key := Value.str (Str.ofString "comment") 559, val := Value.ref 189 }, { hash := PyData.keyHash P (Str.ofString "pi"), key := Value.str (Str.ofString "pi") 568, val := Value.ref 196 }, { hash := PyData.keyHash P (Str.ofString "__static_attributes__"), key := Value.str (Str.ofString "__static_attributes__") 586, val := Value.ref 197 }, { hash := PyData.keyHash P (Str.ofString "__dict__"), key := Value.str (Str.ofString "__dict__") 588, val := Value.ref 200 }, { hash := PyData.keyHash P (Str.ofString "__weakref__"), key := Value.str (Str.ofString "__weakref__") 590, val := Value.ref 201 }, { hash := PyData.keyHash P (Str.ofString "__doc__"), key := Value.str (Str.ofString "__doc__") 591, val := Value.none }] 4 }),
    (199, { cls := Value.type "type", data := Data.cls { name := Str.ofString "C14NWriterTarget", bases := [Value.type "object"], mro := [Value.ref 199, Value.type "object"], ns := 198, qualname := Str.ofString "C14NWriterTarget" }, slots := #[none, none, some (Value.str (Str.ofString "C14NWriterTarget") 429), some (Value.str (Str.ofString "C14NWriterTarget") 437), some (Value.builtin "object.__new__"), some (Value.bool true)] }),
    (200, { cls := Value.type "getset_descriptor", data := Data.fields #[Value.str (Str.ofString "__dict__") 587, Value.ref 199, Value.builtin "function.__dict__", Value.builtin "function.__dict__#set"] }),
    (201, { cls := Value.type "getset_descriptor", data := Data.fields #[Value.str (Str.ofString "__weakref__") 589, Value.ref 199, Value.builtin "ExceptionGroup.__weakref__", Value.none] }),
    (209, { cls := Value.type "code", data := Data.fields #[Value.str (Str.ofString "_escape_cdata_c14n") 594, Value.str (Str.ofString "_escape_cdata_c14n") 595, Value.str (Str.ofString "/claim/cut.py") 596, Value.int 222 0, Value.int 1 0, Value.int 0 0, Value.int 0 0, Value.int 3 0, Value.ref 204, Value.bool true, Value.int 276 0, Value.ref 205, Value.none, Value.ref 206, Value.ref 207, Value.ref 208, Value.int 598 0, Value.int 222 0, Value.str (Str.ofString "/claim/cut.py") 599] }),
    (210, { cls := Value.type "function", data := Data.func { name := Str.ofString "_escape_cdata_c14n", qualname := Str.ofString "_escape_cdata_c14n", params := ?A210, body := .stmts ?B210, scope := ?S210, globals := 3, closure := [], defaults := Value.none, kwdefaults := Value.none, pyModule := Value.str (Str.ofString "cpy313.xml.etree.ElementTree") 358, code := Value.ref 209 } }),
    (216, { cls := Value.type "code", data := Data.fields #[Value.str (Str.ofString "_escape_attrib_c14n") 601, Value.str (Str.ofString "_escape_attrib_c14n") 602, Value.str (Str.ofString "/claim/cut.py") 603, Value.int 235 0, Value.int 1 0, Value.int 0 0, Value.int 0 0, Value.int 3 0, Value.ref 211, Value.bool true, Value.int 276 0, Value.ref 212, Value.none, Value.ref 213, Value.ref 214, Value.ref 215, Value.int 605 0, Value.int 235 0, Value.str (Str.ofString "/claim/cut.py") 606] }),
    (217, { cls := Value.type "function", data := Data.func { name := Str.ofString "_escape_attrib_c14n", qualname := Str.ofString "_escape_attrib_c14n", params := ?A217, body := .stmts ?B217, scope := ?S217, globals := 3, closure := [], defaults := Value.none, kwdefaults := Value.none, pyModule := Value.str (Str.ofString "cpy313.xml.etree.ElementTree") 358, code := Value.ref 216 } }),
    (223, { cls := Value.type "code", data := Data.fields #[Value.str (Str.ofString "_law_record") 610, Value.str (Str.ofString "_law_record") 611, Value.str (Str.ofString "/claim/cut.py") 612, Value.int 253 0, Value.int 1 0, Value.int 0 0, Value.int 0 0, Value.int 3 0, Value.ref 218, Value.bool true, Value.int 276 0, Value.ref 219, Value.none, Value.ref 220, Value.ref 221, Value.ref 222, Value.int 615 0, Value.int 253 0, Value.str (Str.ofString "/claim/cut.py") 616] }),
    (224, { cls := Value.type "function", data := Data.func { name := Str.ofString "_law_record", qualname := Str.ofString "_law_record", params := ?A224, body := .stmts ?B224, scope := ?S224, globals := 3, closure := [], defaults := Value.none, kwdefaults := Value.none, pyModule := Value.str (Str.ofString "law_rs0229_03") 608, code := Value.ref 223 } }),
    (228, { cls := Value.type "code", data := Data.fields #[Value.str (Str.ofString "_law_spelled") 618, Value.str (Str.ofString "_law_spelled") 619, Value.str (Str.ofString "/claim/cut.py") 620, Value.int 257 0, Value.int 2 0, Value.int 0 0, Value.int 0 0, Value.int 3 0, Value.ref 225, Value.bool true, Value.int 276 0, Value.ref 226, Value.none, Value.none, Value.none, Value.ref 227, Value.int 621 0, Value.int 257 0, Value.str (Str.ofString "/claim/cut.py") 622] }),
    (229, { cls := Value.type "function", data := Data.func { name := Str.ofString "_law_spelled", qualname := Str.ofString "_law_spelled", params := ?A229, body := .stmts ?B229, scope := ?S229, globals := 3, closure := [], defaults := Value.none, kwdefaults := Value.none, pyModule := Value.str (Str.ofString "law_rs0229_03") 608, code := Value.ref 228 } }),
    (233, { cls := Value.type "code", data := Data.fields #[Value.str (Str.ofString "_law_words") 624, Value.str (Str.ofString "_law_words") 625, Value.str (Str.ofString "/claim/cut.py") 626, Value.int 259 0, Value.int 0 0, Value.int 0 0, Value.int 0 0, Value.int 3 0, Value.ref 230, Value.bool true, Value.int 276 0, Value.ref 231, Value.none, Value.none, Value.none, Value.ref 232, Value.int 627 0, Value.int 259 0, Value.str (Str.ofString "/claim/cut.py") 628] }),
    (234, { cls := Value.type "function", data := Data.func { name := Str.ofString "_law_words", qualname := Str.ofString "_law_words", params := ?A234, body := .stmts ?B234, scope := ?S234, globals := 3, closure := [], defaults := Value.none, kwdefaults := Value.none, pyModule := Value.str (Str.ofString "law_rs0229_03") 608, code := Value.ref 233 } }),
    (240, { cls := Value.type "code", data := Data.fields #[Value.str (Str.ofString "_law_tell") 630, Value.str (Str.ofString "_law_tell") 631, Value.str (Str.ofString "/claim/cut.py") 632, Value.int 264 0, Value.int 2 0, Value.int 0 0, Value.int 0 0, Value.int 3 0, Value.ref 235, Value.bool true, Value.int 276 0, Value.ref 236, Value.none, Value.ref 237, Value.ref 238, Value.ref 239, Value.int 637 0, Value.int 264 0, Value.str (Str.ofString "/claim/cut.py") 638] }),
    (241, { cls := Value.type "function", data := Data.func { name := Str.ofString "_law_tell", qualname := Str.ofString "_law_tell", params := ?A241, body := .stmts ?B241, scope := ?S241, globals := 3, closure := [], defaults := Value.none, kwdefaults := Value.none, pyModule := Value.str (Str.ofString "law_rs0229_03") 608, code := Value.ref 240 } }),
    (245, { cls := Value.type "code", data := Data.fields #[Value.str (Str.ofString "_law_page") 640, Value.str (Str.ofString "_law_page") 641, Value.str (Str.ofString "/claim/cut.py") 642, Value.int 270 0, Value.int 2 0, Value.int 0 0, Value.int 0 0, Value.int 3 0, Value.ref 242, Value.bool true, Value.int 276 0, Value.ref 243, Value.none, Value.none, Value.none, Value.ref 244, Value.int 643 0, Value.int 270 0, Value.str (Str.ofString "/claim/cut.py") 644] }),
    (246, { cls := Value.type "function", data := Data.func { name := Str.ofString "_law_page", qualname := Str.ofString "_law_page", params := ?A246, body := .stmts ?B246, scope := ?S246, globals := 3, closure := [], defaults := Value.none, kwdefaults := Value.none, pyModule := Value.str (Str.ofString "law_rs0229_03") 608, code := Value.ref 245 } }),
    (250, { cls := Value.type "code", data := Data.fields #[Value.str (Str.ofString "law") 646, Value.str (Str.ofString "law") 647, Value.str (Str.ofString "/claim/cut.py") 648, Value.int 275 0, Value.int 1 0, Value.int 0 0, Value.int 0 0, Value.int 3 0, Value.ref 247, Value.bool true, Value.int 276 0, Value.ref 248, Value.none, Value.none, Value.none, Value.ref 249, Value.int 649 0, Value.int 275 0, Value.str (Str.ofString "/claim/cut.py") 650] }),
    (251, { cls := Value.type "function", data := Data.func { name := Str.ofString "law", qualname := Str.ofString "law", params := ?A251, body := .stmts ?B251, scope := ?S251, globals := 3, closure := [], defaults := Value.none, kwdefaults := Value.none, pyModule := Value.str (Str.ofString "law_rs0229_03") 608, code := Value.ref 250 } })]
noncomputable def er : Value → Value
  | .int i _ => .int i 0
  | .float b _ => .float b 0
  | .str s _ => .str s 0
  | .bytes b _ => .bytes b 0
  | v => v
noncomputable def Vs (p : Value) (P : Value → Prop) : Prop := match p with
  | .int i _ => ∀ t, P (.int i t)
  | .float b _ => ∀ t, P (.float b t)
  | .str s _ => ∀ t, P (.str s t)
  | .bytes b _ => ∀ t, P (.bytes b t)
  | v => P v
theorem Vs.get {p v : Value} {P : Value → Prop} (h : Vs p P) (e : er v = p) : P v := by
  subst e
  cases v <;> first | exact h _ | exact h
inductive PO where
  | ns (m : List (Str × Value))
  | idc (m : List (Str × Value))
  | lst (xs : List Value)
  | tup (xs : List Value)
  | ins (C d : Addr)
  | cel (v : Option Value)
  | raw (o : Obj)
  | prd (P : Obj → Prop)
noncomputable def PO.Of : PO → Obj → Prop
  | .ns m, o => ∃ es ep, o.data = .dict es ep ∧ StrKeys es ∧ ∀ x, (nsFind es x).map er = m.lookup x
  | .idc m, o => ∃ es ep, o.data = .dict es ep ∧ StrKeys es ∧ (∀ x, (nsFind es x).map er = m.lookup x) ∧ es.size ≤ m.length
  | .lst xs, o => ∃ its n, o = { cls := .type "list", data := .seq its n } ∧ its.toList.map er = xs
  | .tup xs, o => ∃ its n, o = { cls := .type "tuple", data := .seq its n } ∧ its.toList.map er = xs
  | .ins C d, o => o = { cls := .ref C, dict := some d }
  | .cel v, o => ∃ v', o.data = .cell v' ∧ v'.map er = v
  | .raw o', o => o = o'
  | .prd P, o => P o
noncomputable def itr (l : Addr) (i : Nat) : PO := .prd fun o => o.cls = .type "list_iterator" ∧ o.data = .fields #[.ref l, .int i 0]
structure LamTab where
  P : Addr
  pos : Pos
  qual : Str
  own : Option (Addr × Obj) := none
structure LamOk (h : Heap) (lo : Nat) (keys : List Addr) (q : LamTab) : Prop where
  tab : ∃ ps, h.get? q.P = some { cls := .none, data := .fields ps } ∧ TriplesOk ps.toList ∧ ∀ cv, codeAmong q.pos ps.toList = some cv → ∃ c o vs t, cv = .ref c ∧ c ∉ keys ∧ lo ≤ c ∧ h.get? c = some o ∧ o.data = .fields vs ∧ vs[1]? = some (.str q.qual t)
  fix : ∀ p, q.own = some p → p.1 ∉ keys ∧ lo ≤ p.1 ∧ h.get? p.1 = some p.2
theorem LamOk.step {h h' : Heap} {lo : Nat} {keys keys' : List Addr} {q : LamTab} (x : LamOk h lo keys q) (k1 : ∀ o, h.get? q.P = some o → h'.get? q.P = some o) (k2 : ∀ b o, b ∉ keys → h.get? b = some o → h'.get? b = some o) (k3 : ∀ c, c < h.objs.size → c ∉ keys → c ∉ keys') : LamOk h' lo keys' q := by
  obtain ⟨⟨ps, h1, h2, h3⟩, h4⟩ := x
  refine ⟨⟨ps, k1 _ h1, h2, fun cv hcv => ?_⟩, fun p hp => ?_⟩
  · obtain ⟨c, o, vs, t, e, hn, hlo, hc, r⟩ := h3 cv hcv
    exact ⟨c, o, vs, t, e, k3 c (Heap.lt_size hc) hn, hlo, k2 c o hn hc, r⟩
  · obtain ⟨hn, hlo, hc⟩ := h4 p hp
    exact ⟨k3 _ (Heap.lt_size hc) hn, hlo, k2 _ _ hn hc⟩
structure Cx where
  h₀ : Heap
  os : OsState
  K : Frag
  kin : K.In h₀
  kcls : ∀ a o, K.lookup a = some o → o.cls ≠ .none
  lim : h₀.NoLimit
  low : cStatics < h₀.objs.size
  last : ∃ a o, h₀.get? a = some o ∧ h₀.objs.size = a + 1
  mb : Str → Option Value
  bns : h₀.Ns builtinsNs mb
  bb : ∀ x : Str, x ≠ "__name__" → mb x = bootBuiltins x
  mg : Str → Option Value
  gns : h₀.Ns mainGlobals mg
  bmain : ∃ bm ob, mg "__builtins__" = some (.ref bm) ∧ bm ≠ builtinsNs ∧ h₀.get? bm = some ob ∧ ob.cls = .type "module" ∧ ob.dict = some builtinsNs ∧ ob.data = .plain
  lams : List LamTab
  lamlow : ∀ q ∈ lams, q.P < h₀.objs.size
  lamtab : ∀ q ∈ lams, q.P ≠ cStatics ∧ ∃ c ps, h₀.TableAt c q.P ps
  lamsame : ∀ q ∈ lams, ∀ r ∈ lams, r.P = q.P → r.pos = q.pos ∧ r.qual = q.qual
  gl : List (Nat × GenState) := []
noncomputable abbrev Led := List (Addr × PO)
structure Sat (C : Cx) (σ : Led) (s : Shared) : Prop where
  old : OldK C.h₀ s.heap
  stat : s.heap.get? cStatics = C.h₀.get? cStatics
  led : ∀ p ∈ σ, ∃ o, s.heap.get? p.1 = some o ∧ p.2.Of o
  low : ∀ p ∈ σ, C.h₀.objs.size ≤ p.1
  nd : (σ.map (·.1)).Nodup
  os : s.os = C.os
  gens : AllBare s.gens
  gl : ∀ p ∈ C.gl, s.gens[p.1]? = some p.2
  tk : 0 < s.toks
  lam : ∀ q ∈ C.lams, LamOk s.heap C.h₀.objs.size (σ.map (·.1)) q
local macro_rules | `(tactic| wtm_at "r_pos") => `(tactic| first | assumption | exact Nat.succ_pos _ | exact Sat.tk (by assumption) | exact Nat.lt_of_lt_of_le (Sat.tk (by assumption)) (Nat.le_add_right _ _))
section
variable {C : Cx} {σ σ' : Led} {s s' : Shared} {a : Addr} {p p' : PO} {o : Obj}
theorem Sat.size (S : Sat C σ s) : C.h₀.objs.size ≤ s.heap.objs.size := by
  obtain ⟨a, o, ho, e⟩ := C.last
  obtain ⟨o', ho'⟩ := S.old.there a o ho
  rw [e]
  exact Nat.succ_le_of_lt (Heap.lt_size ho')
theorem OldK.lowK {h₀ h h' : Heap} (K : OldK h₀ h) (hk : ∀ b o, b < h₀.objs.size → h.get? b = some o → h'.get? b = some o) : OldK h₀ h' :=
  ⟨fun b o e => by
    have lb := Heap.lt_size e
    rcases K.old b o e with x | ⟨t, hc, vs, more, hv, x⟩ | ⟨rfl, hc, ⟨o', es, n, ho', r⟩, z⟩
    · exact .inl (hk _ _ lb x)
    · exact .inr (.inl ⟨t, hc, vs, more, hv, hk _ _ lb x⟩)
    · exact .inr (.inr ⟨rfl, hc, ⟨o', es, n, hk _ _ lb ho', r⟩, fun key => by rw [OldK.staticOf_congr ((hk _ _ lb ho').trans ho'.symm) key]; exact z key⟩),
   fun b o e => let ⟨o', ho'⟩ := K.there b o e; ⟨o', hk _ _ (Heap.lt_size e) ho'⟩⟩
theorem Sat.kin (S : Sat C σ s) : C.K.In s.heap := fun a o e => S.old.get_of_cls (C.kin a o e) (C.kcls a o e)
theorem Sat.lim (S : Sat C σ s) : s.heap.NoLimit := by
  obtain ⟨mc, ⟨o, es, ep, ho, r⟩, q⟩ := C.lim
  exact ⟨mc, ⟨o, es, ep, S.stat.trans ho, r⟩, q⟩
theorem Sat.get (S : Sat C σ s) (hm : (a, p) ∈ σ) : ∃ o, s.heap.get? a = some o ∧ p.Of o := S.led _ hm
theorem Sat.lt (S : Sat C σ s) (hm : (a, p) ∈ σ) : a < s.heap.objs.size := let ⟨_, ho, _⟩ := S.led _ hm; Heap.lt_size ho
theorem Sat.tok (S : Sat C σ s) (t : Nat) (ht : 0 < t := by wtm_at "r_pos") : Sat C σ { s with toks := t } := ⟨S.old, S.stat, S.led, S.low, S.nd, S.os, S.gens, S.gl, ht, S.lam⟩
theorem Sat.sub (S : Sat C σ s) (h : σ'.Sublist σ) : Sat C σ' s :=
  ⟨S.old, S.stat, fun p hp => S.led p (h.subset hp), fun p hp => S.low p (h.subset hp), (h.map _).nodup S.nd, S.os, S.gens, S.gl, S.tk, fun q hq => (S.lam q hq).step (fun _ e => e) (fun _ _ _ e => e) fun c _ hn hc => hn ((h.map _).subset hc)⟩
theorem Sat.perm (S : Sat C σ s) (h : σ.Perm σ') : Sat C σ' s :=
  ⟨S.old, S.stat, fun p hp => S.led p (h.symm.subset hp), fun p hp => S.low p (h.symm.subset hp), (h.map _).nodup_iff.mp S.nd, S.os, S.gens, S.gl, S.tk, fun q hq => (S.lam q hq).step (fun _ e => e) (fun _ _ _ e => e) fun c _ hn hc => hn ((h.map _).symm.subset hc)⟩
theorem Sat.stat_ne (S : Sat C σ s) (ha : C.h₀.objs.size ≤ a) : a ≠ cStatics := fun e => absurd (e ▸ ha : C.h₀.objs.size ≤ cStatics) (Nat.not_le.mpr C.low)
theorem Sat.push (S : Sat C σ s) (hp : p.Of o) (hf : o.isFreed = false) (t : Nat) (ht : 0 < t := by wtm_at "r_pos") : Sat C ((s.heap.objs.size, p) :: σ) { s with heap := s.heap.push o, toks := t } := by
  have k : ∀ b x, s.heap.get? b = some x → (s.heap.push o).get? b = some x := fun b x e => Heap.get?_push_of_some o e
  refine ⟨S.old.step_keeps k, ?_, fun q hq => ?_, fun q hq => ?_, ?_, S.os, S.gens, S.gl, ht, fun q hq => (S.lam q hq).step (fun o e => k _ o e) (fun b o _ e => k b o e) fun c hc hn hm => ?_⟩
  · obtain ⟨mc, ⟨oc, es, ep, hc, _⟩, _⟩ := C.lim
    exact (k _ _ (S.stat.trans hc)).trans hc.symm
  · rcases List.mem_cons.mp hq with rfl | hq
    · exact ⟨o, Heap.get?_push_size _ hf, hp⟩
    · obtain ⟨x, hx, h⟩ := S.led q hq; exact ⟨x, k _ _ hx, h⟩
  · rcases List.mem_cons.mp hq with rfl | hq
    · exact S.size
    · exact S.low q hq
  · rw [List.map_cons]
    refine List.nodup_cons.mpr ⟨fun hm => ?_, S.nd⟩
    obtain ⟨q, hq, e⟩ := List.mem_map.mp hm
    have : q.1 < s.heap.objs.size := S.lt (p := q.2) hq
    rw [e] at this
    exact Nat.lt_irrefl _ this
  · rw [List.map_cons] at hm
    rcases List.mem_cons.mp hm with e | hm
    · exact Nat.ne_of_lt hc e
    · exact hn hm
theorem Sat.push0 (S : Sat C σ s) (o : Obj) (t : Nat) (ht : 0 < t := by wtm_at "r_pos") : Sat C σ { s with heap := s.heap.push o, toks := t } := by
  have k : ∀ b x, s.heap.get? b = some x → (s.heap.push o).get? b = some x := fun b x e => Heap.get?_push_of_some o e
  refine ⟨S.old.step_keeps k, ?_, fun q hq => ?_, S.low, S.nd, S.os, S.gens, S.gl, ht, fun q hq => (S.lam q hq).step (fun o e => k _ o e) (fun b o _ e => k b o e) fun c _ hn => hn⟩
  · obtain ⟨mc, ⟨oc, es, ep, hc, _⟩, _⟩ := C.lim
    exact (k _ _ (S.stat.trans hc)).trans hc.symm
  · obtain ⟨x, hx, h⟩ := S.led q hq; exact ⟨x, k _ _ hx, h⟩
theorem Sat.ext (S : Sat C ((a, p) :: σ) s) {h' : Heap} (hx : Heap.ExtBut a s.heap h') (t : Nat) (ht : 0 < t := by wtm_at "r_pos") : Sat C σ { s with heap := h', toks := t } := by
  have ha := S.low _ (.head _)
  have k : ∀ b o, b < C.h₀.objs.size → s.heap.get? b = some o → h'.get? b = some o := fun b o hb e => hx b o (fun q => by rw [q] at hb; exact Nat.lt_irrefl _ (Nat.lt_of_lt_of_le hb ha)) e
  have nd := S.nd
  rw [List.map_cons, List.nodup_cons] at nd
  refine ⟨OldK.lowK S.old k, ?_, fun q hq => ?_, fun q hq => S.low q (.tail _ hq), nd.2, S.os, S.gens, S.gl, ht, fun q hq => (S.lam q hq).step (fun o e => k _ o (C.lamlow q hq) e)
    (fun b o hb e => hx b o (fun q => hb (by rw [List.map_cons, q]; exact .head _)) e) fun c _ hn hm => hn (by rw [List.map_cons]; exact .tail _ hm)⟩
  · obtain ⟨mc, ⟨oc, es, ep, hc, _⟩, _⟩ := C.lim
    exact (k _ _ C.low (S.stat.trans hc)).trans hc.symm
  · obtain ⟨x, hx', h⟩ := S.led q (.tail _ hq)
    exact ⟨x, hx _ _ (fun e => nd.1 (e ▸ List.mem_map_of_mem (f := (·.1)) hq)) hx', h⟩
inductive Upd (a : Addr) (p p' : PO) : Led → Led → Prop
  | head {r} : Upd a p p' ((a, p) :: r) ((a, p') :: r)
  | tail {q r r'} : Upd a p p' r r' → Upd a p p' (q :: r) (q :: r')
theorem Upd.keys (U : Upd a p p' σ σ') : σ'.map (·.1) = σ.map (·.1) := by
  induction U with
  | head => rfl
  | tail _ ih => rw [List.map_cons, List.map_cons, ih]
theorem Upd.mem (U : Upd a p p' σ σ') : (a, p) ∈ σ := by
  induction U with
  | head => exact .head _
  | tail _ ih => exact .tail _ ih
theorem Upd.cases (U : Upd a p p' σ σ') (nd : (σ.map (·.1)).Nodup) : ∀ q ∈ σ', q = (a, p') ∨ (q ∈ σ ∧ q.1 ≠ a) := by
  induction U with
  | head =>
    intro q hq
    rw [List.map_cons, List.nodup_cons] at nd
    rcases List.mem_cons.mp hq with rfl | hq
    · exact .inl rfl
    · exact .inr ⟨.tail _ hq, fun e => nd.1 (e ▸ List.mem_map_of_mem (f := (·.1)) hq)⟩
  | @tail x r r' U ih =>
    intro q hq
    rw [List.map_cons, List.nodup_cons] at nd
    rcases List.mem_cons.mp hq with rfl | hq
    · refine .inr ⟨.head _, fun e => nd.1 ?_⟩
      rw [e]; exact List.mem_map_of_mem (f := (·.1)) U.mem
    · rcases ih nd.2 q hq with e | ⟨h1, h2⟩
      · exact .inl e
      · exact .inr ⟨.tail _ h1, h2⟩
theorem Sat.set (S : Sat C σ s) (U : Upd a p p' σ σ') {h' : Heap} (hs : Heap.SameBut a s.heap h') (ho : h'.get? a = some o) (hp : p'.Of o) (t : Nat) (ht : 0 < t := by wtm_at "r_pos") : Sat C σ' { s with heap := h', toks := t } := by
  have ha := S.low _ U.mem
  refine ⟨S.old.step_same ha hs, (hs.2 _ (S.stat_ne ha).symm).trans S.stat, fun q hq => ?_, fun q hq => ?_, by rw [U.keys]; exact S.nd, S.os, S.gens, S.gl, ht, fun q hq => (S.lam q hq).step
    (fun o e => (hs.2 _ (fun e' : q.P = a => Nat.lt_irrefl _ (Nat.lt_of_lt_of_le (C.lamlow q hq) (Nat.le_trans ha (Nat.le_of_eq e'.symm))))).trans e) (fun b o hb e => (hs.2 b (fun e' : b = a => hb (e' ▸ List.mem_map_of_mem (f := (·.1)) U.mem))).trans e) fun c _ hn => by rw [U.keys]; exact hn⟩
  · rcases U.cases S.nd q hq with rfl | ⟨h1, h2⟩
    · exact ⟨o, ho, hp⟩
    · obtain ⟨x, hx, h⟩ := S.led q h1
      exact ⟨x, (hs.2 _ h2).trans hx, h⟩
  · rcases U.cases S.nd q hq with rfl | ⟨h1, h2⟩
    · exact ha
    · exact S.low q h1
theorem Sat.upd (S : Sat C σ s) (U : Upd a p p' σ σ') {f : Obj → Obj} (ho : s.heap.get? a = some o) (hp : p'.Of (f o)) (hf : (f o).isFreed = false) (t : Nat) (ht : 0 < t := by wtm_at "r_pos") : Sat C σ' { s with heap := s.heap.update a f, toks := t } :=
  S.set U (Heap.SameBut.update ..) (Heap.get?_update_self f ho hf) hp t ht
end
section
variable {prog : Program} {w : World} {A : Around} {E : Value → Shared → Prop} {C : Cx} {σ σ' : Led} {s : Shared} {env : Env} {x : Str} {pos : Pos} {pv v : Value} {Q : Value → Shared → Prop} {m : List (Str × Value)}
theorem PO.ns_of {h : Heap} {L : Addr} {o : Obj} (ho : h.get? L = some o) (hp : (PO.ns m).Of o) : ∃ mm, h.Ns L mm ∧ ∀ x, (mm x).map er = m.lookup x := by
  obtain ⟨es, ep, e, k, f⟩ := hp
  exact ⟨_, ⟨o, es, ep, ho, e, k, fun _ => rfl⟩, f⟩
theorem PO.of_ns {h : Heap} {L : Addr} {mm : Str → Option Value} (n : h.Ns L mm) (hm : ∀ x, (mm x).map er = m.lookup x) : ∃ o, h.get? L = some o ∧ (PO.ns m).Of o := by
  obtain ⟨o, es, ep, ho, e, k, f⟩ := n
  exact ⟨o, ho, es, ep, e, k, fun x => by rw [f]; exact hm x⟩
theorem ldL (S : Sat C σ s) (hm : (env.locals, .ns m) ∈ σ) (hx : m.lookup x = some pv) (hk : env.scope.kind = .function) (hl : env.kindOf x = some .local) (h : Vs pv (fun v => Q v s)) :
    wpAny (model prog w) A (loadName env x) Q E s := by
  obtain ⟨o, ho, hp⟩ := S.get hm
  obtain ⟨mm, n, f⟩ := PO.ns_of ho hp
  have e := f x
  rw [hx] at e
  obtain ⟨v, hv, he⟩ := Option.map_eq_some_iff.mp e
  exact wpAny_loadName_local hk hl n hv (h.get he)
theorem ldC {c : Addr} (S : Sat C σ s) (hc : env.cells.lookup x = some c) (hm : (c, .cel (some pv)) ∈ σ) (hk : env.scope.kind = .function) (hl : env.kindOf x = some .cell) (h : Vs pv (fun v => Q v s)) :
    wpAny (model prog w) A (loadName env x) Q E s := by
  obtain ⟨o, ho, v', hd, hv⟩ := S.get hm
  obtain ⟨v, rfl, he⟩ := Option.map_eq_some_iff.mp hv
  exact wpAny_loadName_cell hk hl hc ⟨o, ho, hd⟩ (h.get he)
theorem loadName_global (hk : env.scope.kind = .function) (hx : env.kindOf x = some .globalImplicit) : loadName env x = loadGlobal env x := by
  unfold loadName
  simp only [Env.blockKind, hk, hx, ScopeKind.isAnnotationScope, Bool.false_and, Bool.false_eq_true, if_false]
theorem ldG (S : Sat C σ s) (e : nsIn C.K mainGlobals x = some (some v)) (hk : env.scope.kind = .function) (hx : env.kindOf x = some .globalImplicit) (hg : env.globals = mainGlobals) (h : Q v s) :
    wpAny (model prog w) A (loadName env x) Q E s := by
  rw [loadName_global hk hx]
  unfold loadGlobal
  rw [hg]
  exact wpAny_bind ((looks_nsIn S.kin e).here (wpAny_pure h))
theorem Sat.bns (S : Sat C σ s) : s.heap.Ns builtinsNs C.mb := by
  obtain ⟨o, es, ep, ho, hd, k, f⟩ := C.bns
  refine ⟨o, es, ep, ?_, hd, k, f⟩
  rcases S.old.old _ _ ho with x | ⟨t, hc, vs, more, hv, x⟩ | ⟨e, _⟩
  · exact x
  · rw [hv] at hd; cases hd
  · cases e
theorem ldB (S : Sat C σ s) (e : nsIn C.K mainGlobals x = some none) (e2 : bootBuiltins x = some v) (hn : x ≠ "__name__") (hk : env.scope.kind = .function) (hx : env.kindOf x = some .globalImplicit) (hg : env.globals = mainGlobals) (hb : env.builtins = builtinsNs) (h : Q v s) :
    wpAny (model prog w) A (loadName env x) Q E s := by
  rw [loadName_global hk hx]
  unfold loadGlobal
  rw [hg, hb]
  refine wpAny_bind ((looks_nsIn S.kin e).here (wpAny_bind (wpAny_nsGet S.bns ?_)))
  rw [C.bb x hn, e2]
  exact wpAny_pure h
theorem stL {Q : Unit → Shared → Prop} (S : Sat C σ s) (U : Upd env.locals (.ns m) (.ns ((x, er v) :: m)) σ σ') (hl : env.kindOf x = some .local) (hk : env.scope.kind = .function) (h : ∀ s', Sat C σ' s' → Q () s') :
    wpAny (model prog w) A (storeName env x v) Q E s := by
  obtain ⟨o, ho, hp⟩ := S.get U.mem
  obtain ⟨mm, n, f⟩ := PO.ns_of ho hp
  refine wpAny_storeName_local hl n (fun h' n' hs => ?_) (by rw [hk]; rfl)
  obtain ⟨o', ho', hp'⟩ := PO.of_ns (m := (x, er v) :: m) n' (fun y => by
    show (if y = x then some v else mm y).map er = _
    rw [List.lookup_cons]
    by_cases q : y = x
    · subst q; simp
    · have : (y == x) = false := beq_eq_false_iff_ne.mpr q
      rw [if_neg q, this]; exact f y)
  exact h _ (S.set U hs ho' hp' _)
theorem stC {Q : Unit → Shared → Prop} {c : Addr} {v₀ : Option Value} (S : Sat C σ s) (hc : env.cells.lookup x = some c) (U : Upd c (.cel v₀) (.cel (some (er v))) σ σ') (hl : env.kindOf x = some .cell) (hk : env.scope.kind = .function) (h : ∀ s', Sat C σ' s' → Q () s') :
    wpAny (model prog w) A (storeName env x v) Q E s := by
  obtain ⟨o, ho, v', hd, hv⟩ := S.get U.mem
  refine wpAny_storeName_cell hk hl hc ⟨o, ho, hd⟩ fun h' hc' hs => ?_
  obtain ⟨o', ho', hd'⟩ := hc'
  have := S.set U hs ho' ⟨_, hd', rfl⟩ s.toks
  exact h _ this
end
theorem runs_toks {M : Model} {Γ : Ctx} {p : Pos} {t : Sem Fin} {fs : List Frame} {s : Shared} {e : End} {s' : Shared} (h : Runs M Γ p t fs s e s') : s.toks ≤ s'.toks := by
  induction h with
  | call _ _ ih1 ih2 => exact Nat.le_trans ih1 ih2
  | resumeFresh _ _ _ _ ih1 ih2 => exact Nat.le_trans ih1 ih2
  | resumeSuspended _ _ _ _ ih1 ih2 => exact Nat.le_trans ih1 ih2
  | segRet _ _ ih1 ih2 => exact Nat.le_trans ih1 ih2
  | segGen _ _ ih1 ih2 => exact Nat.le_trans ih1 ih2
  | segSuspGen _ _ _ _ ih1 ih2 => exact Nat.le_trans ih1 ih2
  | fresh _ ih => exact Nat.le_trans (Nat.le_succ _) ih
  | _ => first | exact Nat.le_refl _ | assumption
theorem wakes_toks {M : Model} {Γ : Ctx} {p : Pos} {g : Nat} {r : Resume} {s : Shared} {res : GenResult} {s' : Shared} (h : Wakes M Γ p g r s res s') : s.toks ≤ s'.toks := by
  unfold Wakes at h
  split at h
  · exact h.elim
  · split at h
    · obtain ⟨e, s₁, hr, _, _, rfl⟩ := h; have := runs_toks hr; exact this
    · rw [h.2]; exact Nat.le_refl _
    · rw [h.2]; exact Nat.le_refl _
  · obtain ⟨e, s₁, hr, _, _, rfl⟩ := h; have := runs_toks hr; exact this
  · rw [h.2]; exact Nat.le_refl _
  · rw [h.2]; exact Nat.le_refl _
theorem wp_toks {α : Type} {M : Model} {Γ : Ctx} (t : Sem α) : ∀ {Q : α → Pos → Shared → Prop} {E : Value → Pos → Shared → Prop} {p : Pos} {s : Shared}, Sem.wp M Γ t Q E p s →
    Sem.wp M Γ t (fun a p' s' => Q a p' s' ∧ s.toks ≤ s'.toks) E p s := by
  have up : ∀ {β : Type} (t : Sem β) {Q : β → Pos → Shared → Prop} {E : Value → Pos → Shared → Prop} {p : Pos} {s₀ s : Shared}, s₀.toks ≤ s.toks →
      Sem.wp M Γ t (fun a p' s' => Q a p' s' ∧ s.toks ≤ s'.toks) E p s → Sem.wp M Γ t (fun a p' s' => Q a p' s' ∧ s₀.toks ≤ s'.toks) E p s :=
    fun t Q E p s₀ s hl h => Sem.wp_mono M Γ t (fun _ _ _ h' => ⟨h'.1, Nat.le_trans hl h'.2⟩) (fun _ _ _ h' => h') _ _ h
  induction t with
  | pure a => intro Q E p s h; exact ⟨h, Nat.le_refl _⟩
  | raise x => intro Q E p s h; exact h
  | unsupported what => intro Q E p s h; exact h.elim
  | finish x => intro Q E p s h; exact h.elim
  | register a k => intro Q E p s h; exact h.elim
  | yield v g l k => intro Q E p s h; exact h.elim
  | fork c k => intro Q E p s h; exact h.elim
  | await a f d l k => intro Q E p s h; exact h.elim
  | rule tag k ih => intro Q E p s h; exact ih () h
  | «at» p' k ih => intro Q E p s h; exact ih () h
  | load a part k ih => intro Q E p s h; obtain ⟨o, ho, h⟩ := h; exact ⟨o, ho, ih o h⟩
  | update a part f k ih => intro Q E p s h; obtain ⟨ha, h⟩ := h; exact ⟨ha, ih () h⟩
  | alloc o k ih => intro Q E p s h; exact ih _ h
  | loadIfAlive a k ih => intro Q E p s h; exact ih _ h
  | point l k ih => intro Q E p s h; exact ih () h
  | fresh k ih => intro Q E p s h; exact up _ (s₀ := s) (s := { s with toks := s.toks + 1 }) (Nat.le_succ _) (ih _ h)
  | ask k ih => intro Q E p s h; exact ih _ h
  | choose src n k ih => intro Q E p s h; obtain ⟨hn, h⟩ := h; exact ⟨hn, ih _ h⟩
  | os q l k ih => intro Q E p s h; exact ih _ h
  | call c h g l k ih =>
    intro Q E p s hw; obtain ⟨r, s₁, hret, hw⟩ := hw
    exact ⟨r, s₁, hret, up _ (runs_toks hret) (ih r hw)⟩
  | handled own k ih => intro Q E p s h; exact ih _ h
  | newGen c k ih => intro Q E p s h; exact ih _ h
  | genState g k ih => intro Q E p s h; obtain ⟨st, hg, h⟩ := h; exact ⟨st, hg, ih _ h⟩
  | resume g r l k ih =>
    intro Q E p s h; obtain ⟨res, s₁, hwk, h⟩ := h
    exact ⟨res, s₁, hwk, up _ (wakes_toks hwk) (ih res h)⟩
  | stack k ih => intro Q E p s h; exact ih _ h
  | thread k ih => intro Q E p s h; exact ih _ h
theorem withTk {α : Type} {M : Model} {A : Around} {t : Sem α} {Q : α → Shared → Prop} {E : Value → Shared → Prop} {s : Shared} (h : wpAny M A t (fun a s' => 0 < s'.toks → Q a s') E s) (h0 : 0 < s.toks) : wpAny M A t Q E s := fun Γ p hΓ =>
  Sem.wp_mono M Γ t (fun _ _ _ h' => h'.1 (Nat.lt_of_lt_of_le h0 h'.2)) (fun _ _ _ h' => h') _ _ (wp_toks t (h Γ p hΓ))
section
variable {name : Str} {o : Obj} {m : List (Str × Value)} {v : Value} {es : Array DictEntry} {ep : Nat}
theorem look_of (hd : o.data = .dict es ep) (k : StrKeys es) : lookIn name o = some (nsFind es name) := by
  unfold lookIn nsFind findBy
  rw [hd]
  dsimp only
  rw [← Array.find?_toList]
  cases hf : es.toList.find? (fun e => e.key.isStr name) with
  | some e => rfl
  | none =>
    have : es.toList.any (·.refKey) = false := by
      rw [List.any_eq_false]
      intro e he
      obtain ⟨n, t, h⟩ := k e (Array.mem_toList_iff.mp he)
      simp [DictEntry.refKey, h]
    dsimp only
    rw [this]; rfl
theorem putName_of (hp : (PO.idc m).Of o) (hsh : Int) (t : Tok) : (PO.idc ((name, er v) :: m)).Of (Obj.putName name hsh (.str name t) v o) ∧ (Obj.putName name hsh (.str name t) v o).isFreed = false := by
  obtain ⟨es, ep, hd, k, f, z⟩ := hp
  obtain ⟨c, d, dt, sl⟩ := o
  subst hd
  have key : ∀ (es' : Array DictEntry) ep' (o' : Obj), o'.data = .dict es' ep' → StrKeys es' → es'.size ≤ m.length + 1 → (∀ x, nsFind es' x = if x = name then some v else nsFind es x) →
      (PO.idc ((name, er v) :: m)).Of o' ∧ o'.isFreed = false := by
    intro es' ep' o' hd' k' z' f'
    refine ⟨⟨es', ep', hd', k', fun x => ?_, by rw [List.length_cons]; exact z'⟩, Obj.isFreed_of_dict hd'⟩
    rw [f', List.lookup_cons]
    by_cases q : x = name
    · subst q; simp
    · have : (x == name) = false := beq_eq_false_iff_ne.mpr q
      rw [if_neg q, this]; exact f x
  cases hi : es.findIdx? (·.key.isStr name) with
  | some i =>
    refine key (es.modify i fun e => { e with val := v }) ep _ (by simp only [Obj.putName_eq, Obj.putNameByArray, hi]) (k.modify _ _) (Nat.le_succ_of_le (by rw [Array.size_modify]; exact z)) fun x => ?_
    exact findBy_modify (fun n v => v.isStr n) Value.isStr_inj es name x v i hi
  | none =>
    refine key (es.push ⟨hsh, .str name t, v⟩) (ep + 1) _ (by simp only [Obj.putName_eq, Obj.putNameByArray, hi]) (k.push _ _ _ _) (by rw [Array.size_push]; exact Nat.succ_le_succ z) fun x => ?_
    exact findBy_push (fun n v => v.isStr n) es name x _ _ v (fun y => by
      show (name == y) = decide (y = name)
      by_cases h : y = name
      · subst h; simp
      · have : ¬ name = y := fun e => h e.symm
        simp [h, this]) hi
end
section
variable {prog : Program} {w : World} {A : Around} {E : Value → Shared → Prop} {C : Cx} {σ σ' : Led} {s : Shared} {name : Str} {pv v : Value} {m : List (Str × Value)} {x d Cc f : Addr}
theorem Sat.inst (S : Sat C σ s) (hm : (x, .ins Cc d) ∈ σ) (hd : (d, .idc m) ∈ σ) : ∃ od es ep, InstAt s.heap x ⟨.ref Cc, some d, .plain, #[]⟩ Cc (some od) ∧ s.heap.get? d = some od ∧ od.data = .dict es ep ∧ StrKeys es ∧ (∀ y, (nsFind es y).map er = m.lookup y) ∧ es.size ≤ m.length := by
  obtain ⟨ox, hx, px⟩ := S.get hm
  obtain ⟨od, ho, es, ep, e, k, f, z⟩ := S.get hd
  have px : ox = _ := px
  subst px
  exact ⟨od, es, ep, ⟨hx, rfl, rfl, ho⟩, ho, e, k, f, z⟩
theorem getA {Q : Value → Shared → Prop} {expr : Bool} (S : Sat C σ s) (hm : (x, .ins Cc d) ∈ σ) (hd : (d, .idc m) ∈ σ) (hx : m.lookup name = some pv) (hg : plainGet C.K Cc name = true) (hh : hasDictIn C.K Cc = true)
    (ha : findIn C.K (.ref Cc) name = some none) (hv : handedIn pv = true) (h : ∀ s', Sat C σ s' → Vs pv (fun v => Q v s')) : wpAny (model prog w) A (getAttr (.ref x) name expr) Q E s := by
  obtain ⟨od, es, ep, I, ho, e, k, f, z⟩ := S.inst hm hd
  have q := f name
  rw [hx] at q
  obtain ⟨v, hf, he⟩ := Option.map_eq_some_iff.mp q
  have hv' : handedIn v = true := by subst he; cases v <;> first | rfl | exact hv
  exact get_value S.kin I (plainGet_of hg).1 (findObj_own hh ha rfl (by rw [look_of e k, hf])) hv' ((h _ (S.tok _)).get he)
theorem mth {Q : Value × List Value → Shared → Prop} {pl : Sem Bool} (S : Sat C σ s) (hm : (x, .ins Cc d) ∈ σ) (hd : (d, .idc m) ∈ σ) (hx : m.lookup name = none) (hg : plainGet C.K Cc name = true)
    (hf : findIn C.K (.ref Cc) name = some (some (.ref f))) (ht : typeIn C.K (.ref f) = some (.type "function")) (h : Q (.ref f, [.ref x]) s) : wpAny (model prog w) A (getMethod (.ref x) name pl) Q E s := by
  obtain ⟨od, es, ep, I, ho, e, k, ff, z⟩ := S.inst hm hd
  have q := ff name
  rw [hx, Option.map_eq_none_iff] at q
  refine method_fn S.kin I (plainGet_of hg).1 (plainGet_of hg).2 hf ht ?_ h
  show (lookIn name od).map _ = _
  rw [look_of e k, q]; rfl
theorem setA {Q : Unit → Shared → Prop} (S : Sat C σ s) (hm : (x, .ins Cc d) ∈ σ) (U : Upd d (.idc m) (.idc ((name, er v) :: m)) σ σ') (hs : findIn C.K (.ref Cc) "__setattr__" = some (some (.builtin "object.__setattr__"))) (hp : plainOver C.K Cc = true)
    (ht : takerIn C.K Cc name = some none) (hh : hasDictIn C.K Cc = true) (hz : m.length < 1000) (h : ∀ s', Sat C σ' s' → Q () s') : wpAny (model prog w) A (setAttr (.ref x) name v) Q E s := by
  obtain ⟨od, es, ep, I, ho, e, k, ff, z⟩ := S.inst hm U.mem
  refine set_plain S.kin I hs ?_
  have S1 := S.tok (s.toks + 1)
  refine osa_open (s := { s with toks := s.toks + 1 }) S1.kin I hp ht fun b => ?_
  obtain ⟨cd, hc, hd'⟩ := any_some hh
  have X := S1.kin
  refine wpAny_bind (wpAny_pure (wpAny_bind (wpAny_bind (wpAny_loadPart I.at_ (wpAny_bind ((looks_clsIn X hc).here ?_))))))
  rw [hd']
  refine wpAny_pure (a := some d) (wpAny_bind (wpAny_pure (wpAny_bind ?_)))
  unfold nsSet
  refine wpAny_bind (wpAny_bind (wpAny_askSetting (wpAny_pure (wpAny_bind (wpAny_mkText (wpAny_bind (wpAny_loadPart ho ?_)))))))
  rw [e]
  dsimp only
  have c : (!es.any (·.key.isStr name) && es.any (·.refKey)) = false := by
    have : es.any (·.refKey) = false := by
      rw [Array.any_eq_false']; intro e he; obtain ⟨n, t, h⟩ := k e he; simp [DictEntry.refKey, h]
    rw [this, Bool.and_false]
  rw [aRefKeyMayBeTheName_at, c]
  have P : ∀ hsh tk, _ := fun hsh tk => putName_of (name := name) (v := v) (o := od) (m := m) ⟨es, ep, e, k, ff, z⟩ hsh tk
  refine wpAny_updatePart ho ?_
  refine wpAny_bind (wpAny_lookBehind (Heap.get?_update_self _ ho (P _ _).2) ?_ ?_)
  · obtain ⟨⟨es', ep', e', _, _, z'⟩, _⟩ := P (if name.cps.isEmpty then 0 else reduceHash ((model prog w).w.params.strHash name.cps)) (s.toks + 1)
    rw [e']
    exact pastItsLine_dict (by rw [sizeLine_eq]; rw [List.length_cons] at z'; wtm_at "om")
  · refine wpAny_pure ?_
    exact h _ (S.upd U ho (P _ _).1 (P _ _).2 _)
theorem callFnC {R : Result → Shared → Prop} {nm qual : Str} {params : Arguments} {body : List Stmt} {scope : Scope} {cl : List (Str × Addr)} {dV kV doc pm cdv ct oc : Value} {an od : Option Addr} {osl : Array (Option Value)} {args : Args} {binds : List (Str × Value)}
    (S : Sat C σ s) (hroom : A.depth < recursionLimit) (ho : C.K.lookup f = some ⟨oc, od, .func (fnX nm qual params body scope cl dV kV doc pm an cdv ct), osl⟩) (hcd : codeIn C.K cdv qual = true)
    (hbind : BindsTo s (fnX nm qual params body scope cl dV kV doc pm an cdv ct) args binds) (hloc : ∀ y ∈ binds, scope.names.lookup y.1 = some .local)
    (h : ∀ L s', Sat C ((L, .ns (binds.reverse.map fun y => (y.1, er y.2))) :: σ) s' →
      wpAny (model prog w) (A.deeper (envX qual scope L f cdv cl)) (execs body (envX qual scope L f cdv cl)) (fun fl s'' => R (.ok (.ret (match fl with | .ret v => v | _ => .none))) s'') (fun _ _ => False) s')
    (hco : scope.isCoroutine = false := by rfl) (hgen : scope.isGenerator = false := by rfl) (hk : scope.kind = .function := by rfl) (hcell : ∀ x ∈ scope.names, x.2 ≠ .cell := by decide) :
    codeAny (model prog w) A (.call (.ref f) args) R s := by
  refine codeAny_call_def (fd := fnX nm qual params body scope cl dV kV doc pm an cdv ct) (body := body) (binds := binds) hroom (S.kin _ _ ho) rfl S.lim (codeRec_of S.kin hcd) rfl hbind hcell hloc (fun h₁ hns hk₁ => ?_) hco hgen hk
  have sz : s.heap.objs.size < h₁.objs.size := hns.lt
  have S' : Sat C ((s.heap.objs.size, .ns (binds.reverse.map fun y => (y.1, er y.2))) :: σ) { s with heap := h₁, toks := s.toks + binds.length } := by
    obtain ⟨o', ho', hp'⟩ := PO.of_ns (m := binds.reverse.map fun y => (y.1, er y.2)) hns (fun x => by
      induction binds.reverse with
      | nil => rfl
      | cons y r ih =>
        rw [List.lookup_cons, List.map_cons, List.lookup_cons]
        cases (x == y.1) <;> simp_all)
    refine ⟨S.old.step_keeps hk₁, ?_, fun q hq => ?_, fun q hq => ?_, ?_, S.os, S.gens, S.gl, by wtm_at "r_pos", fun q hq => (S.lam q hq).step (fun o e => hk₁ _ o e) (fun b o _ e => hk₁ b o e) fun c hc hn hm => by
      rw [List.map_cons] at hm
      rcases List.mem_cons.mp hm with e | hm
      · exact Nat.ne_of_lt hc e
      · exact hn hm⟩
    · obtain ⟨mc, ⟨oc, es, ep, hc, _⟩, _⟩ := C.lim
      exact (hk₁ _ _ (S.stat.trans hc)).trans hc.symm
    · rcases List.mem_cons.mp hq with rfl | hq
      · exact ⟨o', ho', hp'⟩
      · obtain ⟨x, hx, h⟩ := S.led q hq; exact ⟨x, hk₁ _ _ hx, h⟩
    · rcases List.mem_cons.mp hq with rfl | hq
      · exact S.size
      · exact S.low q hq
    · rw [List.map_cons]
      refine List.nodup_cons.mpr ⟨fun hm => ?_, S.nd⟩
      obtain ⟨q, hq, e⟩ := List.mem_map.mp hm
      have : q.1 < s.heap.objs.size := S.lt (p := q.2) hq
      rw [e] at this
      exact Nat.lt_irrefl _ this
  exact wpAny_mono (h _ _ S') (fun fl s'' z => z) fun _ _ z => z.elim
theorem callFn {Q : Value → Shared → Prop} {nm qual : Str} {params : Arguments} {body : List Stmt} {scope : Scope} {cl : List (Str × Addr)} {dV kV doc pm cdv ct oc : Value} {an od : Option Addr} {osl : Array (Option Value)} {args : Args} {binds : List (Str × Value)}
    (S : Sat C σ s) (hroom : A.depth < recursionLimit) (ho : C.K.lookup f = some ⟨oc, od, .func (fnX nm qual params body scope cl dV kV doc pm an cdv ct), osl⟩) (hcd : codeIn C.K cdv qual = true)
    (hbind : BindsTo s (fnX nm qual params body scope cl dV kV doc pm an cdv ct) args binds) (hloc : ∀ y ∈ binds, scope.names.lookup y.1 = some .local)
    (h : ∀ L s', Sat C ((L, .ns (binds.reverse.map fun y => (y.1, er y.2))) :: σ) s' →
      wpAny (model prog w) (A.deeper (envX qual scope L f cdv cl)) (execs body (envX qual scope L f cdv cl)) (fun fl s'' => Q (match fl with | .ret v => v | _ => .none) s'') (fun _ _ => False) s')
    (hco : scope.isCoroutine = false := by rfl) (hgen : scope.isGenerator = false := by rfl) (hk : scope.kind = .function := by rfl) (hcell : ∀ x ∈ scope.names, x.2 ≠ .cell := by decide) :
    wpAny (model prog w) A (call (.ref f) args.pos args.kw) Q E s :=
  wpAny_call (callFnC S hroom ho hcd hbind hloc h hco hgen hk hcell)
end
structure Rm (n : Nat) (A : Around) : Prop where
  hand : A.handled = none
  dep : A.depth + 4 * n < 900
  un : A.units + 60 * n < 9000
section
variable {prog : Program} {w : World} {A : Around} {E : Value → Shared → Prop} {C : Cx} {σ σ' : Led} {s : Shared} {n : Nat}
theorem Rm.deeper (r : Rm (n + 1) A) (env : Env) : Rm n (A.deeper env) := ⟨r.hand, by have := r.dep; show A.depth + 1 + _ < _; wtm_at "om", by have := r.un; show A.units + 3 + _ < _; wtm_at "om"⟩
theorem Rm.down (r : Rm (n + 1) A) : Rm n A := ⟨r.hand, by have := r.dep; wtm_at "om", by have := r.un; wtm_at "om"⟩
theorem Rm.room (r : Rm n A) : A.depth < recursionLimit := by have := r.dep; show A.depth < 1000; wtm_at "om"
theorem Rm.units (r : Rm n A) : A.units < cLine := by have := r.un; show A.units < 9900; wtm_at "om"
theorem Sat.lst (S : Sat C σ s) {l : Addr} {xs : List Value} (hm : (l, .lst xs) ∈ σ) : ∃ its n, s.heap.get? l = some { cls := .type "list", data := .seq its n } ∧ its.toList.map er = xs := by
  obtain ⟨o, ho, its, n, rfl, e⟩ := S.get hm
  exact ⟨its, n, ho, e⟩
theorem Sat.isList (S : Sat C σ s) {l : Addr} {xs : List Value} (hm : (l, .lst xs) ∈ σ) : ∃ its, s.heap.IsList l its ∧ its.toList.map er = xs := by
  obtain ⟨its, n, ho, e⟩ := S.lst hm
  exact ⟨its, ⟨_, ho, rfl, n, rfl⟩, e⟩
theorem forLst {l : Addr} {xs : List Value} {target : Expr} {body : List Stmt} {env : Env} {R : Flow → Shared → Prop} {Er : Value → Shared → Prop} (S : Sat C σ s) (hl : (l, .lst xs) ∈ σ) (hh : A.handled = none)
    (J : List Value → Led → Prop) (h0 : J xs σ) (hJl : ∀ r τ, J r τ → (l, .lst xs) ∈ τ)
    (turn : ∀ pv r τ it i s₁, J (pv :: r) τ → Sat C ((it, itr l i) :: τ) s₁ → Vs pv (fun v => wpAny (model prog w) A (assign target env v) (fun _ s₂ => wpAny (model prog w) A (execs body env) (fun fl s₃ => match fl with
        | .next | .cont => ∃ τ', J r τ' ∧ Sat C ((it, itr l i) :: τ') s₃
        | .brk => R .next s₃
        | .ret v => R (.ret v) s₃) (fun _ _ => False) s₂) (fun _ _ => False) s₁))
    (fin : ∀ τ s₁, J [] τ → Sat C τ s₁ → R .next s₁) (ht : ∀ it v, letOwnedTupleGo target it v = pure () := by intro _ _; rfl) :
    wpAny (model prog w) A (pyIter (.ref l)) (fun it s₂ => codeAny (model prog w) A (.forLoop target it body [] env) (fun r s' => match r with | .ok f => R f s' | .error e => Er e s') s₂) E s := by
  obtain ⟨its, hL, he⟩ := S.isList hl
  refine wpAny_pyIter_list hL ?_
  have S₁ := S.push (p := itr l 0) (o := { cls := .type "list_iterator", data := .fields #[.ref l, .int 0 0] }) ⟨rfl, rfl⟩ rfl s.toks
  generalize hit : s.heap.objs.size = it at S₁
  refine codeAny_forLoop (fun k s' => ∃ i r τ, k + i = xs.length ∧ r = xs.drop i ∧ J r τ ∧ Sat C ((it, itr l i) :: τ) s') ?_ xs.length ⟨0, xs, σ, rfl, rfl, h0, S₁⟩ (fun v => ht _ _)
  rintro k s' ⟨i, r, τ, hk, rfl, hJ, S'⟩
  obtain ⟨oi, hoi, hci, hdi⟩ := S'.get (.head _)
  have hIt : s'.heap.IsListIter it l i := ⟨oi, hoi, hci, hdi⟩
  obtain ⟨its', hL', he'⟩ := S'.isList (.tail _ (hJl _ _ hJ))
  have hlen : its'.size = xs.length := by rw [← he', List.length_map, Array.length_toList]
  cases hd : xs.drop i with
  | nil =>
    rw [hd] at hJ
    have hge : xs.length ≤ i := List.drop_eq_nil_iff.mp hd
    refine wpAny_pyNext_list_end hh hIt hL' (by simp; wtm_at "om") fun h' hx => wpAny_execs_nil ?_
    exact fin τ _ hJ (S'.ext hx _)
  | cons pv r =>
    rw [hd] at hJ
    have hx : xs[i]? = some pv := by
      have := List.getElem?_drop (xs := xs) (i := i) (j := 0)
      rw [hd] at this
      simpa using this.symm
    have hlt : i < xs.length := (List.getElem?_eq_some_iff.mp hx).1
    rw [← he', List.getElem?_map] at hx
    obtain ⟨v, hv, hpv⟩ := Option.map_eq_some_iff.mp hx
    refine wpAny_pyNext_list_item hIt hL' (x := v) (by simpa using hv) fun h' hIt' hs => ?_
    obtain ⟨o', ho', hc', hd'⟩ := hIt'
    have S₂ := S'.set (Upd.head (p' := itr l (i + 1))) hs ho' ⟨hc', hd'⟩ s'.toks
    have z := (turn pv r τ it (i + 1) _ hJ S₂).get hpv
    refine wpAny_mono z (fun _ s₂ h₂ => wpAny_mono h₂ (fun fl s₃ h₃ => ?_) fun _ _ h => h.elim) fun _ _ h => h.elim
    have hr : r = xs.drop (i + 1) := by
      rw [← List.drop_drop, hd]; rfl
    cases fl with
    | next => obtain ⟨τ', hJ', S₃⟩ := h₃; exact ⟨k - 1, by wtm_at "om", i + 1, r, τ', by wtm_at "om", hr, hJ', S₃⟩
    | cont => obtain ⟨τ', hJ', S₃⟩ := h₃; exact ⟨k - 1, by wtm_at "om", i + 1, r, τ', by wtm_at "om", hr, hJ', S₃⟩
    | brk => exact h₃
    | ret v => exact h₃
end
section
variable {prog : Program} {w : World} {A : Around} {E : Value → Shared → Prop} {C : Cx} {σ τ : Led} {s : Shared} {n : Nat} {a it : Addr} {p : PO} {o : Obj}
theorem Sat.grow (S : Sat C σ s) {h' : Heap} (k : ∀ b o, s.heap.get? b = some o → h'.get? b = some o) (ha : s.heap.objs.size ≤ a) (ho : h'.get? a = some o) (hp : p.Of o) (t : Nat) (ht : 0 < t := by wtm_at "r_pos") : Sat C ((a, p) :: σ) { s with heap := h', toks := t } := by
  refine ⟨S.old.step_keeps k, ?_, fun q hq => ?_, fun q hq => ?_, ?_, S.os, S.gens, S.gl, ht, fun q hq => (S.lam q hq).step (fun o e => k _ o e) (fun b o _ e => k b o e) fun c hc hn hm => by
    rw [List.map_cons] at hm
    rcases List.mem_cons.mp hm with e | hm
    · exact Nat.lt_irrefl _ (Nat.lt_of_lt_of_le hc (Nat.le_trans ha (Nat.le_of_eq e.symm)))
    · exact hn hm⟩
  · obtain ⟨mc, ⟨oc, es, ep, hc, _⟩, _⟩ := C.lim
    exact (k _ _ (S.stat.trans hc)).trans hc.symm
  · rcases List.mem_cons.mp hq with rfl | hq
    · exact ⟨o, ho, hp⟩
    · obtain ⟨x, hx, h⟩ := S.led q hq; exact ⟨x, k _ _ hx, h⟩
  · rcases List.mem_cons.mp hq with rfl | hq
    · exact Nat.le_trans S.size ha
    · exact S.low q hq
  · rw [List.map_cons]
    refine List.nodup_cons.mpr ⟨fun hm => ?_, S.nd⟩
    obtain ⟨q, hq, e⟩ := List.mem_map.mp hm
    have : q.1 < s.heap.objs.size := S.lt (p := q.2) hq
    rw [e] at this
    exact Nat.lt_irrefl _ (Nat.lt_of_lt_of_le this ha)
structure Its (C : Cx) (prog : Program) (w : World) (A : Around) (it : Addr) (po : Nat → PO) (xs : List Value) (need : Led → Prop) : Prop where
  next : ∀ {i τ s Q E}, need τ → Sat C ((it, po i) :: τ) s → (xs[i]? = none → ∀ s', Sat C τ s' → Q none s') → (∀ p v, xs[i]? = some p → er v = p → ∀ s', Sat C ((it, po (i + 1)) :: τ) s' → Q (some v) s') →
    wpAny (model prog w) A (pyNext (.ref it)) Q E s
  self : ∀ {i τ s Q E}, Sat C ((it, po i) :: τ) s → Q (.ref it) s → wpAny (model prog w) A (pyIter (.ref it)) Q E s
theorem itsL {l : Addr} {xs : List Value} (hh : A.handled = none) : Its C prog w A it (itr l) xs (fun τ => (l, .lst xs) ∈ τ) where
  next := by
    intro i τ s Q E hl S h0 h1
    obtain ⟨oi, hoi, hci, hdi⟩ := S.get (.head _)
    have hIt : s.heap.IsListIter it l i := ⟨oi, hoi, hci, hdi⟩
    obtain ⟨its, hL, he⟩ := S.isList (.tail _ hl)
    have hlen : its.size = xs.length := by rw [← he, List.length_map, Array.length_toList]
    cases hx : xs[i]? with
    | none =>
      refine wpAny_pyNext_list_end hh hIt hL ?_ fun h' hx' => h0 hx _ (S.ext hx' _)
      rw [List.getElem?_eq_none_iff] at hx
      rw [Array.getElem?_eq_none_iff, hlen]; exact hx
    | some pv =>
      have hx' := hx
      rw [← he, List.getElem?_map] at hx'
      obtain ⟨v, hv, hpv⟩ := Option.map_eq_some_iff.mp hx'
      refine wpAny_pyNext_list_item hIt hL (x := v) (by simpa using hv) fun h' hIt' hs => ?_
      obtain ⟨o', ho', hc', hd'⟩ := hIt'
      exact h1 pv v hx hpv _ (S.set (Upd.head (p' := itr l (i + 1))) hs ho' ⟨hc', hd'⟩ s.toks)
  self := by
    intro i τ s Q E S h
    obtain ⟨oi, hoi, hci, hdi⟩ := S.get (.head _)
    exact wpAny_pyIter_listiter ⟨oi, hoi, hci, hdi⟩ h
noncomputable def sitr (x : Str) (t : Tok) (i : Nat) : PO := .prd fun o => o.cls = .type "str_ascii_iterator" ∧ o.data = .fields #[.str x t, .int i 0]
theorem itsS {x : Str} {t : Tok} (hh : A.handled = none) : Its C prog w A it (sitr x t) (x.cps.toList.map fun c => .str ⟨#[c]⟩ 0) (fun _ => True) where
  next := by
    intro i τ s Q E _ S h0 h1
    obtain ⟨oi, hoi, hci, hdi⟩ := S.get (.head _)
    have hIt : s.heap.IsStrIter it "str_ascii_iterator" x t i := ⟨oi, hoi, hci, hdi⟩
    cases hx : x.cps[i]? with
    | none =>
      refine wpAny_pyNext_ascii_end hh hIt hx fun h' hx' => h0 ?_ _ (S.ext hx' _)
      rw [List.getElem?_map, Array.getElem?_toList, hx]; rfl
    | some c =>
      refine wpAny_pyNext_ascii_item hIt hx fun h' hIt' hs => ?_
      obtain ⟨o', ho', hc', hd'⟩ := hIt'
      have e : (x.cps.toList.map fun c => Value.str ⟨#[c]⟩ 0)[i]? = some (.str ⟨#[c]⟩ 0) := by rw [List.getElem?_map, Array.getElem?_toList, hx]; rfl
      exact h1 _ (.str ⟨#[c]⟩ s.toks) e rfl _ (S.set (Upd.head (p' := sitr x t (i + 1))) hs ho' ⟨hc', hd'⟩ (s.toks + 1))
  self := by
    intro i τ s Q E S h
    obtain ⟨oi, hoi, hci, hdi⟩ := S.get (.head _)
    exact wpAny_pyIter_striter_ascii ⟨oi, hoi, hci, hdi⟩ h
noncomputable def ritr (a step : Int) (n : Nat) (i : Nat) : PO := .prd fun o => o = { cls := .type "range_iterator", data := .fields #[rawInt (a + step * i), rawInt ((n : Int) - i), rawInt step] }
theorem itsR {b step : Int} (hh : A.handled = none) : Its C prog w A it (ritr b step n) ((List.range n).map fun (i : Nat) => .int (b + step * i) 0) (fun _ => True) where
  next := by
    intro i τ s Q E _ S h0 h1
    obtain ⟨oi, hoi, hd⟩ := S.get (.head _)
    have hIt : IsRangeIter s.heap it (b + step * i) ((n : Int) - i) step := by
      have hd : oi = _ := hd
      subst hd; exact hoi
    by_cases hx : i < n
    · refine wpAny_pyNext_range_item hIt (by wtm_at "om") fun h' hIt' hs => ?_
      have e : ((List.range n).map fun (i : Nat) => Value.int (b + step * i) 0)[i]? = some (.int (b + step * i) 0) := by rw [List.getElem?_map, List.getElem?_range hx]; rfl
      have e1 : b + step * (i : Int) + step = b + step * ((i + 1 : Nat) : Int) := by rw [Int.natCast_add, Int.mul_add, Int.add_assoc]; simp
      have e2 : (n : Int) - i - 1 = n - ((i + 1 : Nat) : Int) := by wtm_at "om"
      refine h1 _ (.int (b + step * i) s.toks) e rfl _ (S.set (Upd.head (p' := ritr b step n (i + 1))) hs hIt' ?_ (s.toks + 1))
      show _ = _
      rw [e1, e2]
    · refine wpAny_pyNext_range_end hh hIt (by wtm_at "om") fun h' hx' => h0 ?_ _ (S.ext hx' _)
      rw [List.getElem?_eq_none_iff, List.length_map, List.length_range]; wtm_at "om"
  self := by
    intro i τ s Q E S h
    obtain ⟨oi, hoi, hd⟩ := S.get (.head _)
    have hd : oi = _ := hd
    subst hd
    exact wpAny_pyIter_rangeiter hoi h
noncomputable abbrev tests (ifs : List Expr) (env : Env) : Sem Bool := forIn ifs true fun c r => if r = true then do let ok ← isTrue c env (eval c env); pure (ForInStep.yield ok) else pure (ForInStep.yield r)
theorem compRun {elt iter : Expr} {x : Str} {px : Pos} {ifs : List Expr} {scope : Scope} {pos : Pos} {cenv : Env} {R : Result → Shared → Prop} {po : Nat → PO} {xs : List Value} {need : Led → Prop} {D : Addr} {m : List (Str × Value)}
    (I : Its C prog w A it po xs need) (J : List Value → List Value → Led → Prop) (S : Sat C ((it, po 0) :: (cenv.locals, .ns m) :: (D, .lst []) :: τ) s) (h0 : J xs [] τ)
    (hn : ∀ r ys τ, J r ys τ → need τ) (hsz : ∀ r ys τ, J r ys τ → ys.length ≤ 1000000) (hx : cenv.kindOf x = some .local) (hk : cenv.scope.kind = .function)
    (hneed : ∀ q τ, need τ → need (q :: τ) := by intro _ _ h; first | exact .tail _ h | exact h)
    (turn : ∀ pv r ys τ i m s₁, J (pv :: r) ys τ → Sat C ((it, po i) :: (cenv.locals, .ns ((x, pv) :: m)) :: (D, .lst ys) :: τ) s₁ → wpAny (model prog w) A (tests ifs cenv) (fun ok s₂ =>
      if ok = true then wpAny (model prog w) A (eval elt cenv) (fun y s₃ => ∃ τ', J r (ys ++ [er y]) τ' ∧ Sat C ((it, po i) :: (cenv.locals, .ns ((x, pv) :: m)) :: (D, .lst ys) :: τ') s₃) (fun _ _ => False) s₂
      else ∃ τ', J r ys τ' ∧ Sat C ((it, po i) :: (cenv.locals, .ns ((x, pv) :: m)) :: (D, .lst ys) :: τ') s₂) (fun _ _ => False) s₁)
    (fin : ∀ ys τ m s₁, J [] ys τ → Sat C ((cenv.locals, .ns m) :: (D, .lst ys) :: τ) s₁ → R (.ok .next) s₁) :
    codeAny (model prog w) A (.compStart (.ListComp elt [⟨.Name x px, iter, ifs, 0⟩] scope pos) 0 (.ref it) (.ref D) cenv) R s := by
  have loop : codeAny (model prog w) A (.compLoop (.ListComp elt [⟨.Name x px, iter, ifs, 0⟩] scope pos) 0 (.ref it) (.ref D) cenv) R s := by
    refine codeAny_compLoop_tests (fun k s' => ∃ i r ys τ m, k + i = xs.length ∧ r = xs.drop i ∧ J r ys τ ∧ Sat C ((it, po i) :: (cenv.locals, .ns m) :: (D, .lst ys) :: τ) s') ?_ xs.length ⟨0, xs, [], τ, m, rfl, rfl, h0, S⟩
    rintro k s' ⟨i, r, ys, τ, m, hk', rfl, hJ, S'⟩
    refine I.next (hneed _ _ (hneed _ _ (hn _ _ _ hJ))) S' (fun hx' s₁ S₁ => ?_) fun pv v hpv hv s₁ S₁ => ?_
    · rw [List.drop_eq_nil_iff.mpr (List.getElem?_eq_none_iff.mp hx')] at hJ
      exact fin _ _ _ _ hJ S₁
    · have hlt : i < xs.length := (List.getElem?_eq_some_iff.mp hpv).1
      have hd : xs.drop i = pv :: xs.drop (i + 1) := by
        rw [List.drop_eq_getElem_cons hlt, (List.getElem?_eq_some_iff.mp hpv).2]
      rw [hd] at hJ
      refine wpAny_assign_Name (stL S₁ (.tail .head) hx hk fun s₂ S₂ => ?_)
      rw [hv] at S₂
      refine wpAny_mono (turn pv _ ys τ (i + 1) m s₂ hJ S₂) (fun ok s₃ h₃ => ?_) fun _ _ f => f.elim
      cases ok with
      | false =>
        obtain ⟨τ', hJ', S₃⟩ := h₃
        exact ⟨k - 1, by wtm_at "om", i + 1, _, ys, τ', _, by wtm_at "om", rfl, hJ', S₃⟩
      | true =>
        refine wpAny_mono h₃ (fun y s₄ h₄ => ?_) fun _ _ f => f.elim
        obtain ⟨τ', hJ', S₄⟩ := h₄
        obtain ⟨its, nn, ho, he⟩ := S₄.lst (.tail _ (.tail _ (.head _)))
        have hl : ys.length ≤ 1000000 := Nat.le_trans (by rw [List.length_append]; exact Nat.le_add_right _ _) (hsz _ _ _ hJ')
        refine append_at ho (fun h' hs hg => ?_) (by rw [sizeLine_eq]; have : its.size = ys.length := by rw [← he, List.length_map, Array.length_toList]
                                                     wtm_at "om")
        refine ⟨k - 1, by wtm_at "om", i + 1, _, ys ++ [er y], τ', _, by wtm_at "om", rfl, hJ', S₄.set (Upd.tail (Upd.tail (Upd.head (p' := .lst (ys ++ [er y]))))) hs hg ⟨_, _, rfl, ?_⟩ s₄.toks⟩
        rw [Array.toList_push, List.map_append, he]; rfl
  exact codeAny_compStart_list loop (I.self S loop)
theorem forIt {target : Expr} {body : List Stmt} {env : Env} {R : Flow → Shared → Prop} {Er : Value → Shared → Prop} {po : Nat → PO} {xs : List Value} {need : Led → Prop}
    (I : Its C prog w A it po xs need) (J : List Value → Led → Prop) (S : Sat C ((it, po 0) :: τ) s) (h0 : J xs τ) (hn : ∀ r τ, J r τ → need τ)
    (turn : ∀ v r τ i s₁, J (er v :: r) τ → Sat C ((it, po i) :: τ) s₁ → wpAny (model prog w) A (assign target env v) (fun _ s₂ => wpAny (model prog w) A (execs body env) (fun fl s₃ => match fl with
        | .next | .cont => ∃ τ', J r τ' ∧ Sat C ((it, po i) :: τ') s₃
        | .brk => R .next s₃
        | .ret v => R (.ret v) s₃) (fun _ _ => False) s₂) (fun _ _ => False) s₁)
    (fin : ∀ τ s₁, J [] τ → Sat C τ s₁ → R .next s₁) (ht : ∀ it v, letOwnedTupleGo target it v = pure () := by intro _ _; rfl) :
    codeAny (model prog w) A (.forLoop target (.ref it) body [] env) (fun r s' => match r with | .ok f => R f s' | .error e => Er e s') s := by
  refine codeAny_forLoop (fun k s' => ∃ i r τ, k + i = xs.length ∧ r = xs.drop i ∧ J r τ ∧ Sat C ((it, po i) :: τ) s') ?_ xs.length ⟨0, xs, τ, rfl, rfl, h0, S⟩ (fun v => ht _ _)
  rintro k s' ⟨i, r, τ, hk, rfl, hJ, S'⟩
  refine I.next (hn _ _ hJ) S' (fun hx' s₁ S₁ => ?_) fun pv v hpv hv s₁ S₁ => ?_
  · rw [List.drop_eq_nil_iff.mpr (List.getElem?_eq_none_iff.mp hx')] at hJ
    exact wpAny_execs_nil (fin _ _ hJ S₁)
  · have hlt : i < xs.length := (List.getElem?_eq_some_iff.mp hpv).1
    have hd : xs.drop i = pv :: xs.drop (i + 1) := by
      rw [List.drop_eq_getElem_cons hlt, (List.getElem?_eq_some_iff.mp hpv).2]
    rw [hd, ← hv] at hJ
    refine wpAny_mono (turn v _ τ (i + 1) _ hJ S₁) (fun _ s₂ h₂ => wpAny_mono h₂ (fun fl s₃ h₃ => ?_) fun _ _ h => h.elim) fun _ _ h => h.elim
    cases fl with
    | next => obtain ⟨τ', hJ', S₃⟩ := h₃; exact ⟨k - 1, by wtm_at "om", i + 1, _, τ', by wtm_at "om", rfl, hJ', S₃⟩
    | cont => obtain ⟨τ', hJ', S₃⟩ := h₃; exact ⟨k - 1, by wtm_at "om", i + 1, _, τ', by wtm_at "om", rfl, hJ', S₃⟩
    | brk => exact h₃
    | ret v => exact h₃
theorem iterL {l : Addr} {xs : List Value} {Q : Value → Shared → Prop} (S : Sat C σ s) (hl : (l, .lst xs) ∈ σ) (h : ∀ it s', Sat C ((it, itr l 0) :: σ) s' → Q (.ref it) s') : wpAny (model prog w) A (pyIter (.ref l)) Q E s := by
  obtain ⟨its, hL, he⟩ := S.isList hl
  exact wpAny_pyIter_list hL (h _ _ (S.push (p := itr l 0) (o := { cls := .type "list_iterator", data := .fields #[.ref l, .int 0 0] }) ⟨rfl, rfl⟩ rfl s.toks))
theorem iterS {x : Str} {t : Tok} {Q : Value → Shared → Prop} (S : Sat C σ s) (ha : x.cps.all (· < 128) = true) (h : ∀ it s', Sat C ((it, sitr x t 0) :: σ) s' → Q (.ref it) s') : wpAny (model prog w) A (pyIter (.str x t)) Q E s :=
  wpAny_pyIter_ascii ha (h _ _ (S.push (p := sitr x t 0) (o := { cls := .type "str_ascii_iterator", data := .fields #[.str x t, .int 0 0] }) ⟨rfl, rfl⟩ rfl s.toks))
end
section
variable {prog : Program} {w : World} {A : Around} {E : Value → Shared → Prop} {C : Cx} {σ σ' τ : Led} {s : Shared} {n : Nat} {a it l b : Addr} {p : PO} {o : Obj} {env : Env} {Q : Value → Shared → Prop} {xs ys : List Value}
theorem mapSeq_at {its : Array Value} {n : Nat} (f : Array Value → Array Value) : ∃ k, Obj.mapSeq f { cls := .type "list", data := .seq its n } = { cls := .type "list", data := .seq (f its) k } := ⟨_, rfl⟩
theorem lst_of {its : Array Value} {k : Nat} (h : its.toList.map er = xs) : (PO.lst xs).Of { cls := .type "list", data := .seq its k } := ⟨its, k, rfl, h⟩
theorem lst_len {its : Array Value} (h : its.toList.map er = xs) : its.size = xs.length := by rw [← h, List.length_map, Array.length_toList]
theorem map_erase {α β : Type} (f : α → β) (l : List α) (k : Nat) : (l.eraseIdx k).map f = (l.map f).eraseIdx k := by
  simp only [List.eraseIdx_eq_take_drop_succ, List.map_append, List.map_take, List.map_drop]
theorem evL {elts : List Expr} {pos : Pos} (_S : Sat C σ s) (h : wpAny (model prog w) A (spliced (backTo pos (starEach elts env))) (fun vs s₁ => ∃ σ', Sat C σ' s₁ ∧ vs.length ≤ 1000 ∧ ∀ D s', Sat C ((D, .lst (vs.map er)) :: σ') s' → Q (.ref D) s') E s) :
    wpAny (model prog w) A (eval (.List elts pos) env) Q E s := by
  refine wpAny_List (wpAny_mono h (fun vs s₁ h₁ => ?_) fun _ _ e => e)
  obtain ⟨σ', S, hl, hq⟩ := h₁
  exact ⟨by rw [sizeLine_eq]; wtm_at "om", hq _ _ (S.push (lst_of rfl) rfl s₁.toks)⟩
theorem evT {elts : List Expr} {k : Nat} {pos : Pos} (_S : Sat C σ s) (h : wpAny (model prog w) A (spliced (backTo pos (starEach elts env))) (fun vs s₁ => ∃ σ', Sat C σ' s₁ ∧ vs.length ≤ 1000 ∧ ∀ D s', Sat C ((D, .tup (vs.map er)) :: σ') s' → Q (.ref D) s') E s) :
    wpAny (model prog w) A (eval (.Tuple elts k pos) env) Q E s := by
  refine wpAny_Tuple (wpAny_mono h (fun vs s₁ h₁ => ?_) fun _ _ e => e)
  obtain ⟨σ', S, hl, hq⟩ := h₁
  exact ⟨by rw [sizeLine_eq]; wtm_at "om", hq _ _ (S.push (p := .tup _) ⟨vs.toArray, 0, rfl, rfl⟩ rfl s₁.toks)⟩
theorem gmL {name : Str} {id : String} {pl : Sem Bool} {Q : Value × List Value → Shared → Prop} (slot : Slot "list" name id) (hty : typeOf (.builtin id) = pure (.type "method_descriptor")) (S : Sat C σ s) (hl : (l, .lst xs) ∈ σ) (h : Q (.builtin id, [.ref l]) s) :
    wpAny (model prog w) A (getMethod (.ref l) name pl) Q E s := by
  obtain ⟨its, n, ho, he⟩ := S.lst hl
  exact getMethod_list_of slot hty ⟨_, ho, rfl, n, rfl⟩ ⟨_, ho, rfl⟩ h
theorem appendS {v : Value} (S : Sat C σ s) (U : Upd l (.lst xs) (.lst (xs ++ [er v])) σ σ') (hz : xs.length ≤ 1000000) (h : ∀ s', Sat C σ' s' → Q .none s') : wpAny (model prog w) A (call (.builtin "list.append") [.ref l, v]) Q E s := by
  obtain ⟨its, n, ho, he⟩ := S.lst U.mem
  refine append_at ho (fun h' hs hg => h _ (S.set U hs hg (lst_of ?_) s.toks)) (by have := lst_len he; rw [sizeLine_eq]; wtm_at "om")
  rw [Array.toList_push, List.map_append, he]; rfl
theorem popS {v : Value} (S : Sat C σ s) (U : Upd l (.lst (xs ++ [v])) (.lst xs) σ σ') (hz : xs.length ≤ 1000000) (h : ∀ s', Sat C σ' s' → Vs v (fun v => Q v s')) : wpAny (model prog w) A (call (.builtin "list.pop") [.ref l]) Q E s := by
  obtain ⟨its, n, ho, he⟩ := S.lst U.mem
  have hn := lst_len he
  rw [List.length_append] at hn
  simp only [List.length_cons, List.length_nil] at hn
  obtain ⟨y, hy⟩ : ∃ y, its[its.size - 1]? = some y := ⟨_, Array.getElem?_eq_getElem (by wtm_at "om")⟩
  have e1 : er y = v := by
    have : (its.toList.map er)[its.size - 1]? = some (er y) := by rw [List.getElem?_map, Array.getElem?_toList, hy]; rfl
    rw [he, List.getElem?_append_right (by wtm_at "om"), show its.size - 1 - xs.length = 0 by wtm_at "om"] at this
    exact (Option.some.inj this).symm
  have hk : its.size - 1 < its.size := by wtm_at "om"
  refine call_meets PySem.F.slot_list_pop ⟨_, ho, rfl⟩ PySem.F.entry_list_pop (PySem.F.args_list_pop_1 _) (MeetsSeq.list_pop_last l its n y hy (by rw [sizeLine_eq]; wtm_at "om")) ⟨ho, ?_⟩
  refine (h _ (S.upd U ho ?_ ?_ s.toks)).get e1
  · rw [mapSeq_erase _ _ _ hk]
    refine lst_of ?_
    rw [map_erase, he, List.eraseIdx_append_of_length_le (by wtm_at "om"), show its.size - 1 - xs.length = 0 by wtm_at "om"]
    simp
  · rw [mapSeq_erase _ _ _ hk]; rfl
theorem extendS (S : Sat C σ s) (hb : (b, .lst ys) ∈ σ) (U : Upd l (.lst xs) (.lst (xs ++ ys)) σ σ') (hz : xs.length + ys.length ≤ 1000000) (h : ∀ s', Sat C σ' s' → Q .none s') : wpAny (model prog w) A (call (.builtin "list.extend") [.ref l, .ref b]) Q E s := by
  obtain ⟨its, n, ho, he⟩ := S.lst U.mem
  obtain ⟨its2, n2, ho2, he2⟩ := S.lst hb
  have h1 := lst_len he
  have h2 := lst_len he2
  refine call_meets PySem.F.slot_list_extend ⟨_, ho, rfl⟩ PySem.F.entry_list_extend (PySem.F.args_list_extend_2 _ _) (AutoSeq1.list_extend_list_list_0 l its n b its2 n2 ?_ (by rw [sizeLine_eq]; wtm_at "om") (by rw [sizeLine_eq]; wtm_at "om")) ⟨ho, ho2, ?_⟩
  · have : Builtin.List.listTooLong (its.size + its2.size) = false := by
      unfold Builtin.List.listTooLong
      rw [decide_eq_false_iff_not, sizeLine_eq]; wtm_at "om"
    rw [this, Bool.and_false]; exact Bool.false_ne_true
  · refine h _ (S.upd U ho ?_ rfl s.toks)
    obtain ⟨k, hk⟩ := mapSeq_at (its := its) (n := n) (fun x => x ++ its2)
    rw [hk]
    refine lst_of ?_
    rw [Array.toList_append, List.map_append, he, he2]
theorem addL (S : Sat C σ s) (hl : (l, .lst xs) ∈ σ) (hb : (b, .lst ys) ∈ σ) (hz : xs.length + ys.length ≤ 1000000) (h : ∀ D s', Sat C ((D, .lst (xs ++ ys)) :: σ) s' → Q (.ref D) s') : wpAny (model prog w) A (binaryOp .Add (.ref l) (.ref b)) Q E s := by
  obtain ⟨its, n, ho, he⟩ := S.lst hl
  obtain ⟨its2, n2, ho2, he2⟩ := S.lst hb
  have h1 := lst_len he
  have h2 := lst_len he2
  refine concat_meets ⟨_, ho, rfl⟩ ⟨_, ho2, rfl⟩ noFill_list_add seq_list_add PySem.F.slot_list_add PySem.F.entry_list_add (PySem.F.args_list_add_2 _ _) (list_addW l b its its2 n n2 none none #[] #[] (by rw [sizeLine_eq]; wtm_at "om")) ⟨ho, ho2, ?_⟩
  refine h _ _ (S.push (lst_of ?_) rfl s.toks)
  rw [Array.toList_append, List.map_append, he, he2]
noncomputable abbrev txts (l : List Str) : List Value := l.map fun x => .str x 0
noncomputable def txtOf : Value → Str | .str x _ => x | _ => Str.empty
theorem er_str {v : Value} {x : Str} (h : er v = .str x 0) : ∃ t, v = .str x t := by
  cases v <;> simp only [er] at h <;> cases h
  exact ⟨_, rfl⟩
theorem inL {xs : List Str} {y : Str} {t : Tok} (S : Sat C σ s) (hl : (l, .lst (txts xs)) ∈ σ) (h : Q (.bool (xs.any fun x => x.cps.toList == y.cps.toList)) s) : wpAny (model prog w) A (compareOp .In (.str y t) (.ref l)) Q E s := by
  obtain ⟨its, hL, he⟩ := S.isList hl
  have key : ∀ v, v ∈ its → ∃ x u, v = .str x u := fun v hv => by
    have := List.mem_map_of_mem (f := er) (Array.mem_toList_iff.mpr hv)
    rw [he] at this
    obtain ⟨x, _, e⟩ := List.mem_map.mp this
    exact ⟨x, er_str e.symm⟩
  refine SeqAt.in_listAt (fun v => (txtOf v).cps.toList == y.cps.toList) hL (fun v hv => ?_) ?_
  · obtain ⟨x, u, rfl⟩ := key v hv
    exact MeetsSeq.EqGives.at (SeqRoads2.EqGives.str x y u t) _ _
  · have : its.any (fun v => (txtOf v).cps.toList == y.cps.toList) = xs.any fun x => x.cps.toList == y.cps.toList := by
      rw [← Array.any_toList]
      have e2 : (its.toList.map er).any (fun v => (txtOf v).cps.toList == y.cps.toList) = its.toList.any fun v => (txtOf v).cps.toList == y.cps.toList := by
        rw [List.any_map]
        congr 1
        funext v
        cases v <;> rfl
      rw [← e2, he, List.any_map]
      rfl
    rw [this]; exact h
theorem notInL {xs : List Str} {y : Str} {t : Tok} (S : Sat C σ s) (hl : (l, .lst (txts xs)) ∈ σ) (h : Q (.bool (!xs.any fun x => x.cps.toList == y.cps.toList)) s) : wpAny (model prog w) A (compareOp .NotIn (.str y t) (.ref l)) Q E s := by
  obtain ⟨its, hL, he⟩ := S.isList hl
  have key : ∀ v, v ∈ its → ∃ x u, v = .str x u := fun v hv => by
    have := List.mem_map_of_mem (f := er) (Array.mem_toList_iff.mpr hv)
    rw [he] at this
    obtain ⟨x, _, e⟩ := List.mem_map.mp this
    exact ⟨x, er_str e.symm⟩
  refine SeqAt.notIn_listAt (fun v => (txtOf v).cps.toList == y.cps.toList) hL (fun v hv => ?_) ?_
  · obtain ⟨x, u, rfl⟩ := key v hv
    exact MeetsSeq.EqGives.at (SeqRoads2.EqGives.str x y u t) _ _
  · have : its.any (fun v => (txtOf v).cps.toList == y.cps.toList) = xs.any fun x => x.cps.toList == y.cps.toList := by
      rw [← Array.any_toList]
      have e2 : (its.toList.map er).any (fun v => (txtOf v).cps.toList == y.cps.toList) = its.toList.any fun v => (txtOf v).cps.toList == y.cps.toList := by
        rw [List.any_map]
        congr 1
        funext v
        cases v <;> rfl
      rw [← e2, he, List.any_map]
      rfl
    rw [this]; exact h
theorem lenL (S : Sat C σ s) (hl : (l, .lst xs) ∈ σ) (hz : xs.length ≤ 1000000) (h : ∀ t s', Sat C σ s' → Q (.int xs.length t) s') : wpAny (model prog w) A (call (.builtin "len") [.ref l]) Q E s := by
  obtain ⟨its, hL, he⟩ := S.isList hl
  refine call_len_list hL (by rw [lst_len he]; wtm_at "om") ?_
  rw [lst_len he]
  exact h _ _ (S.tok _)
theorem lenT {x : Str} {t : Tok} (S : Sat C σ s) (hz : x.length ≤ 1000000) (h : ∀ t s', Sat C σ s' → Q (.int x.length t) s') : wpAny (model prog w) A (call (.builtin "len") [.str x t]) Q E s :=
  len_str (by wtm_at "om") (h _ _ (S.tok _))
end
section
variable {M : Model} {prog : Program} {w : World} {A : Around} {c : Code} {fs : List Frame} {s : Shared} {P : End → Shared → Prop}
theorem sx_wrap {α : Type} {m : Sem α} {K : α → Sem Fin} {H : Value → Sem Fin} {gd : Bool → Bool} {lv : List Value → List Value}
    (h : wpAny M (A.over c fs) m (fun a s' => SegX M A c (K a) fs s' P) (fun x s' => SegX M A c (H x) fs s' P) s) : SegX M A c (m.wrap K H gd lv) fs s P := by
  rintro Γ p rfl hΓ
  exact runs_wrap_of_wp (Φ := fun e s' => e.quiet = true ∧ P e s') K H gd lv m (h (Γ.over fs) p (hΓ.over fs)) (fun a p' s' h' => h' Γ p' rfl hΓ) (fun x p' s' h' => h' Γ p' rfl hΓ)
theorem sx_bind {α : Type} {m : Sem α} {K : α → Sem Fin}
    (h : wpAny M (A.over c fs) m (fun a s' => SegX M A c (K a) fs s' P) (fun x s' => SegX M A c (.raise x) fs s' P) s) : SegX M A c (m >>= K) fs s P := by
  rw [Sem.bind_eq_wrap']; exact sx_wrap h
theorem sx_bw {α β : Type} {m : Sem α} {f : α → Sem β} {K : β → Sem Fin} {H : Value → Sem Fin} {gd : Bool → Bool} {lv : List Value → List Value}
    (h : wpAny M (A.over c fs) m (fun a s' => SegX M A c ((f a).wrap K H gd lv) fs s' P) (fun x s' => SegX M A c (H x) fs s' P) s) : SegX M A c ((m >>= f).wrap K H gd lv) fs s P := by
  rw [Sem.bind_eq_wrap', Sem.wrap_wrap]; exact sx_wrap h
end
noncomputable def Cx.withG (C : Cx) (g : Nat) (gs : GenState) : Cx := { C with gl := (g, gs) :: C.gl }
section
variable {prog : Program} {w : World} {A : Around} {E : Value → Shared → Prop} {C : Cx} {σ τ : Led} {s : Shared} {g : Nat} {gs gs' : GenState}
theorem Sat.noG (S : Sat (C.withG g gs) σ s) : Sat C σ s := ⟨S.old, S.stat, S.led, S.low, S.nd, S.os, S.gens, fun p hp => S.gl p (.tail _ hp), S.tk, S.lam⟩
theorem Sat.gOf (S : Sat (C.withG g gs) σ s) : s.gens[g]? = some gs := S.gl _ (.head _)
theorem Sat.setG (S : Sat (C.withG g gs) σ s) (hf : ∀ p ∈ C.gl, p.1 ≠ g) (hb : gs'.bare = true) : Sat (C.withG g gs') σ (s.setGen g gs') := by
  have hg := S.gOf
  have lt : g < s.gens.size := (Array.getElem?_eq_some_iff.mp hg).1
  refine ⟨S.old, S.stat, S.led, S.low, S.nd, S.os, fun y hy => ?_, fun p hp => ?_, S.tk, S.lam⟩
  · obtain ⟨i, hi, rfl⟩ := Array.mem_iff_getElem.mp hy
    unfold Shared.setGen at hi ⊢
    show ((s.gens.setIfInBounds g gs')[i]'hi).bare = true
    by_cases e : g = i
    · subst e; rw [Array.getElem_setIfInBounds_self]; exact hb
    · rw [Array.getElem_setIfInBounds_ne (by simpa using hi) e]; exact S.gens _ (Array.getElem_mem _)
  · rcases List.mem_cons.mp hp with rfl | hp
    · show (s.gens.setIfInBounds g gs')[g]? = _
      rw [Array.getElem?_setIfInBounds_self_of_lt lt]
    · show (s.gens.setIfInBounds g gs')[p.1]? = _
      rw [Array.getElem?_setIfInBounds_ne (hf p hp).symm]
      exact S.gl p (.tail _ hp)
noncomputable def EPost (prog : Program) (w : World) (A : Around) (need : Cx → Led → Prop) (g : Nat) : List Value → Cx → Led → End → Shared → Prop
  | [], C, τ, e, s => e = .ret (.ok (.ret .none)) ∧ Sat (C.withG g .running) τ s
  | x :: xs, C, τ, e, s => ∃ v l k c p fs own, e = .susp v false l k c p fs ∧ er v = x ∧ Sat (C.withG g .running) (own ++ τ) s ∧
      ∀ C τ s, need C τ → Sat (C.withG g .running) (own ++ τ) s → SegX (model prog w) A c (k (.send .none)) fs s (EPost prog w A need g xs C τ)
noncomputable def Emits (prog : Program) (w : World) (A : Around) (need : Cx → Led → Prop) (g : Nat) (xs : List Value) (own : Led) (c : Code) (t : Sem Fin) (fs : List Frame) : Prop :=
  ∀ C τ s, need C τ → Sat (C.withG g .running) (own ++ τ) s → SegX (model prog w) A c t fs s (EPost prog w A need g xs C τ)
noncomputable def GOf (prog : Program) (w : World) (A : Around) (need : Cx → Led → Prop) (g : Nat) (xs : List Value) (own : Led) (gs : GenState) : Prop := match gs with
  | .fresh c => Emits prog w A need g xs own c (denote table c) []
  | .suspended k _ c _ fs _ => Emits prog w A need g xs own c (k (.send .none)) fs
  | _ => False
theorem nextG {a : Addr} {need : Cx → Led → Prop} {xs : List Value} {own : Led} {Q : Option Value → Shared → Prop} {go : PO} (hgo : ∀ o, go.Of o → ∃ nm qn, o.cls = .type "generator" ∧ o.data = .fields #[.int g 0, nm, qn] ∧ o.slots = #[])
    (G : GOf prog w A.in1 need g xs own gs) (S : Sat (C.withG g gs) (own ++ (a, go) :: τ) s) (hf : ∀ p ∈ C.gl, p.1 ≠ g) (hn : need C ((a, go) :: τ)) (hh : A.handled = none) (hroom : A.depth < recursionLimit)
    (h0 : xs = [] → ∀ s', Sat C ((a, go) :: τ) s' → Q none s') (h1 : ∀ v x xs' own' gs', xs = x :: xs' → er v = x → GOf prog w A.in1 need g xs' own' gs' → ∀ s', Sat (C.withG g gs') (own' ++ (a, go) :: τ) s' → Q (some v) s') :
    wpAny (model prog w) A (pyNext (.ref a)) Q E s := by
  obtain ⟨o, ho, hp⟩ := S.get (List.mem_append_right _ (.head _))
  obtain ⟨nm, qn, hc, hd, hsl⟩ := hgo o hp
  have hg : s.heap.IsGen a g := ⟨o, nm, qn, ho, hc, hd, hsl⟩
  unfold pyNext
  refine wpAny_bind (wpAny_attempt (wpAny_callSpecial?_slot (name := Str.ofString "__next__") hg.typeIs slot_gen_next
    (wpAny_call_entry slot_gen_next hg.typeIs entry_gen_next ?_ (args_gen_next _))))
  show wpAny _ A.in1 (Builtin.Generator.genWake (.ref a) (.send .none)) _ _ s
  unfold Builtin.Generator.genWake
  refine wpAny_bind (wpAny_holding (wpAny_genNumber hg (wpAny_bind (wpAny_genState S.gOf ?_))))
  have S' := S.setG (gs' := .running) hf rfl
  have fin : ∀ (k : GenResult → Sem Fin) (Q' : Fin → Shared → Prop) (E' : Value → Shared → Prop) (e : End) (s₁ : Shared), e.quiet = true → EPost prog w A.in1 need g xs C ((a, go) :: τ) e s₁ →
      (xs = [] → ∀ s', Sat C ((a, go) :: τ) s' → wpAny (model prog w) A.in1 (k (.returned .none)) Q' E' s') →
      (∀ v x xs' own' gs', xs = x :: xs' → er v = x → GOf prog w A.in1 need g xs' own' gs' → ∀ s', Sat (C.withG g gs') (own' ++ (a, go) :: τ) s' → wpAny (model prog w) A.in1 (k (.yielded v)) Q' E' s') →
      wpAny (model prog w) A.in1 (k e.result) Q' E' (s₁.setGen g e.genState) := by
    intro k Q' E' e s₁ hq hE k0 k1
    cases xs with
    | nil =>
      obtain ⟨rfl, S₁⟩ := hE
      exact k0 rfl _ (S₁.setG hf rfl).noG
    | cons x xs =>
      obtain ⟨v, l, kk, c, p, fs, own', rfl, hv, S₁, hG⟩ := hE
      exact k1 v x xs own' (End.genState (.susp v false l kk c p fs)) rfl hv hG _ (S₁.setG hf (End.bare_of_quiet hq))
  have tail : ∀ (Q' : Fin → Shared → Prop) (E' : Value → Shared → Prop) (k : GenResult → Sem Fin) c₀ t₀ fs₀,
      ((gs = .fresh c₀ ∧ Resume.send .none = Resume.send .none ∧ t₀ = denote table c₀ ∧ fs₀ = []) ∨ (∃ k₀ l₀ p₀ cl, gs = .suspended k₀ l₀ c₀ p₀ fs₀ cl ∧ t₀ = k₀ (.send .none))) → Emits prog w A.in1 need g xs own c₀ t₀ fs₀ →
      (xs = [] → ∀ s', Sat C ((a, go) :: τ) s' → wpAny (model prog w) A.in1 (k (.returned .none)) Q' E' s') →
      (∀ v x xs' own' gs', xs = x :: xs' → er v = x → GOf prog w A.in1 need g xs' own' gs' → ∀ s', Sat (C.withG g gs') (own' ++ (a, go) :: τ) s' → wpAny (model prog w) A.in1 (k (.yielded v)) Q' E' s') →
      wpAny (model prog w) A.in1 (.resume g (.send .none) [] k) Q' E' s := by
    intro Q' E' k c₀ t₀ fs₀ hgs hE k0 k1
    refine wake_any _ prog w S.gOf hgs (fun Γ => Γ.In A.in1) (fun _ h => h) ?_
    intro Γ p hc hΓ
    obtain ⟨e, s', hr, hq, hp⟩ := hE C _ _ hn S' Γ p hc hΓ
    exact ⟨e, s', hr, hq, fun Γ' p' h' => fin k Q' E' e s' hq hp k0 k1 Γ' p' h'⟩
  have stop : ∀ (K : PUnit → Sem Fin) (Q' : Fin → Shared → Prop) (E' : Value → Shared → Prop) (s₁ : Shared), Sat C ((a, go) :: τ) s₁ → (∀ e s₂, s₂.TypeIs e "StopIteration" → Sat C ((a, go) :: τ) s₂ → E' e s₂) →
      wpAny (model prog w) A.in1 (newExc (Value.type "StopIteration") [] >>= fun x => raiseNew x >>= K) Q' E' s₁ := by
    intro K Q' E' s₁ S₁ hE
    refine wpAny_bind ?_
    simp only [newExc, newTuple]
    refine wpAny_bind (wpAny_newObj_type ?_ (by size_fits))
    refine wpAny_bind (m := firstArgMember _ _) (wpAny_of_eq (a := Value.none) (by first | rfl | (simp only [firstArgMember]; rfl)) ?_)
    refine wpAny_newObj_type ?_ (by size_fits)
    simp only [raiseNew]
    refine wpAny_bind (wpAny_bind (wpAny_handled ?_))
    rw [show A.in1.handled = none from hh]
    refine wpAny_throw (hE _ _ ⟨_, Heap.get?_push_size _ rfl, rfl⟩ ((S₁.push0 _ s₁.toks).push0 _ s₁.toks))
  cases gs with
  | running => exact G.elim
  | finished => exact G.elim
  | fresh c =>
    refine wpAny_bind (wpAny_roomToWake S.lim hroom ?_)
    show wpAny _ A.in1 (.resume g (.send .none) [] _) _ _ s
    refine tail _ _ _ _ _ _ (.inl ⟨rfl, rfl, rfl, rfl⟩) G (fun hx s' S₁ => ?_) fun v x xs' own' gs' e e2 G' s' S₁ => ?_
    · refine wpAny_bind (wpAny_pure ?_)
      show wpAny _ _ (newExc (.type "StopIteration") [] >>= _) _ _ _
      refine stop _ _ _ s' S₁ fun e s₂ hT S₂ => ?_
      refine wpAny_bind (wpAny_isInstance (T := "StopIteration") (b := true) hT isSubtype_stop ?_)
      exact wpAny_pure (h0 hx _ S₂)
    · exact wpAny_pure ⟨v, rfl, wpAny_pure (h1 v x xs' own' gs' e e2 G' s' S₁)⟩
  | suspended k l c p fs cl =>
    refine wpAny_bind (wpAny_roomToWake S.lim hroom ?_)
    show wpAny _ A.in1 (.resume g (.send .none) [] _) _ _ s
    refine tail _ _ _ _ _ _ (.inr ⟨k, l, p, cl, rfl, rfl⟩) G (fun hx s' S₁ => ?_) fun v x xs' own' gs' e e2 G' s' S₁ => ?_
    · refine wpAny_bind (wpAny_pure ?_)
      show wpAny _ _ (newExc (.type "StopIteration") [] >>= _) _ _ _
      refine stop _ _ _ s' S₁ fun e s₂ hT S₂ => ?_
      refine wpAny_bind (wpAny_isInstance (T := "StopIteration") (b := true) hT isSubtype_stop ?_)
      exact wpAny_pure (h0 hx _ S₂)
    · exact wpAny_pure ⟨v, rfl, wpAny_pure (h1 v x xs' own' gs' e e2 G' s' S₁)⟩
theorem owned_gen {a : Addr} {target : Expr} {v : Value} {go : PO} {Q : Unit → Shared → Prop} (hgo : ∀ o, go.Of o → ∃ nm qn, o.cls = .type "generator" ∧ o.data = .fields #[.int g 0, nm, qn] ∧ o.slots = #[])
    (S : Sat C σ s) (ha : (a, go) ∈ σ) (h : Q () s) : wpAny (model prog w) A (letOwnedTupleGo target (.ref a) v) Q E s := by
  obtain ⟨o, ho, hp⟩ := S.get ha
  obtain ⟨nm, qn, h1, h2, h3⟩ := hgo o hp
  have key : ∀ r, wpAny (model prog w) A (do
      let o ← load a
      match o.cls, o.data with
      | .type n, .fields vs =>
        if ["enumerate", "zip", "dict_itemiterator", "dict_reverseitemiterator", "odict_iterator", "itertools.zip_longest", "itertools.pairwise"].contains n && vs[0]? == some (rawInt r) then
          rule "for.unpacks-the-owned-tuple"
          updateField a 0 .none
      | _, _ => pure () : Sem Unit) Q E s := by
    intro r
    refine wpAny_bind (wpAny_load ho ?_)
    rw [h1, h2]
    dsimp only
    rw [if_neg (by simp)]
    exact wpAny_pure h
  unfold letOwnedTupleGo
  cases target <;> first | exact wpAny_pure h | (cases v <;> first | exact wpAny_pure h | exact key _)
theorem forGen {a : Addr} {target : Expr} {body : List Stmt} {env : Env} {R : Flow → Shared → Prop} {Er : Value → Shared → Prop} {need : Cx → Led → Prop} {xs : List Value} {own : Led} {go : PO}
    (hgo : ∀ o, go.Of o → ∃ nm qn, o.cls = .type "generator" ∧ o.data = .fields #[.int g 0, nm, qn] ∧ o.slots = #[])
    (hh : A.handled = none) (hroom : A.depth < recursionLimit) (hf : ∀ p ∈ C.gl, p.1 ≠ g)
    (G : GOf prog w A.in1 need g xs own gs) (J : List Value → Led → Prop) (S : Sat (C.withG g gs) (own ++ (a, go) :: τ) s) (h0 : J xs τ) (hn : ∀ r τ, J r τ → need C ((a, go) :: τ))
    (turn : ∀ gs' own' v r τ s₁, J (er v :: r) τ → Sat (C.withG g gs') ((a, go) :: (τ ++ own')) s₁ → wpAny (model prog w) A (assign target env v) (fun _ s₂ => wpAny (model prog w) A (execs body env) (fun fl s₃ => match fl with
        | .next | .cont => ∃ τ', J r τ' ∧ Sat (C.withG g gs') ((a, go) :: (τ' ++ own')) s₃
        | .brk => R .next s₃
        | .ret v => R (.ret v) s₃) (fun _ _ => False) s₂) (fun _ _ => False) s₁)
    (fin : ∀ τ s₁, J [] τ → Sat C ((a, go) :: τ) s₁ → R .next s₁) :
    codeAny (model prog w) A (.forLoop target (.ref a) body [] env) (fun r s' => match r with | .ok f => R f s' | .error e => Er e s') s := by
  refine codeAny_forLoop_any (fun k s' => ∃ r τ own gs, k = r.length ∧ J r τ ∧ GOf prog w A.in1 need g r own gs ∧ Sat (C.withG g gs) (own ++ (a, go) :: τ) s') ?_ xs.length ⟨xs, τ, own, gs, rfl, h0, G, S⟩
  rintro k s' ⟨r, τ, own, gs, rfl, hJ, G, S'⟩
  refine nextG hgo G S' hf (hn _ _ hJ) hh hroom (fun hx s₁ S₁ => ?_) fun v x r' own' gs' hx hv G' s₁ S₁ => ?_
  · subst hx
    exact wpAny_execs_nil (fin _ _ hJ S₁)
  · subst hx; subst hv
    refine owned_gen hgo S₁ (List.mem_append_right _ (.head _)) ?_
    refine wpAny_mono (turn gs' own' v r' τ s₁ hJ (S₁.perm (List.perm_append_comm))) (fun _ s₂ h₂ => wpAny_mono h₂ (fun fl s₃ h₃ => ?_) fun _ _ h => h.elim) fun _ _ h => h.elim
    cases fl with
    | next => obtain ⟨τ', hJ', S₃⟩ := h₃; exact ⟨r'.length, by simp, r', τ', own', gs', rfl, hJ', G', S₃.perm (List.perm_append_comm (l₁ := (a, go) :: τ'))⟩
    | cont => obtain ⟨τ', hJ', S₃⟩ := h₃; exact ⟨r'.length, by simp, r', τ', own', gs', rfl, hJ', G', S₃.perm (List.perm_append_comm (l₁ := (a, go) :: τ'))⟩
    | brk => exact h₃
    | ret v => exact h₃
section
variable {it l : Addr} {xs r rest : List Value} {own : Led} {need : Cx → Led → Prop} {c₁ : Code} {fs : List Frame} {k : Result → Sem Fin} {hd : Option Value} {gd : Bool} {lv : List Value} {p : Pos}
theorem listClose : typeLookup (.type "list_iterator") "close" = pure none := by rw [typeLookup_type, builtinLookup_eq_fast]; kernel_rfl
theorem lnextE {i : Nat} {Q : Option Value → Shared → Prop} {C : Cx} {σ : Led} (S : Sat C ((it, itr l i) :: σ) s) (hl : (l, .lst xs) ∈ (it, itr l i) :: σ) (hx : xs[i]? = none) (hh : A.handled = none)
    (h : ∀ e oe s' vs, Sat C σ s' → s'.heap.get? e = some oe → oe.cls = .type "StopIteration" → oe.data = .fields vs → vs[5]? = some .none → E (.ref e) s') : wpAny (model prog w) A (callSpecial? (.ref it) (Str.ofString "__next__")) Q E s := by
  obtain ⟨oi, hoi, hci, hdi⟩ := S.get (.head _)
  obtain ⟨its, hL, he⟩ := S.isList hl
  have hxi : its[i]? = none := by rw [Array.getElem?_eq_none_iff, lst_len he]; exact List.getElem?_eq_none_iff.mp hx
  refine wpAny_callSpecial?_slot (name := Str.ofString "__next__") ⟨oi, hoi, hci⟩ slot_listiter_next
      (wpAny_call_entry slot_listiter_next ⟨oi, hoi, hci⟩ entry_listiter_next ?_ (args_listiter_next _))
  obtain ⟨ol, hol, _, nl, hdl⟩ := hL
  show wpAny _ _ (field (.ref it) 0 >>= _) _ _ s
  refine wpAny_bind (wpAny_field hoi hdi (x := .ref l) rfl ?_)
  show wpAny _ _ (if (Value.ref l == Value.none) = true then _ else _) _ _ s
  rw [if_neg (show ¬ ((Value.ref l == Value.none) = true) from Bool.false_ne_true)]
  show wpAny _ _ (field (.ref it) 1 >>= _) _ _ s
  refine wpAny_bind (wpAny_field hoi hdi (x := .int i 0) rfl ?_)
  show wpAny _ _ (seqItems? (.ref l) >>= _) _ _ s
  refine wpAny_bind (wpAny_seqItems hol hdl ?_)
  simp only [Int.toNat_natCast, hxi]
  refine wpAny_bind (wpAny_rule (wpAny_bind (wpAny_setField hoi hdi (by simp) ?_)))
  show wpAny _ _ (newExc (.type "StopIteration") [] >>= _) _ _ _
  refine wpAny_bind ?_
  simp only [newExc, newTuple]
  refine wpAny_bind (wpAny_newObj_type ?_ (by size_fits))
  refine wpAny_bind (m := firstArgMember _ _) (wpAny_of_eq (a := Value.none) (by first | rfl | (simp only [firstArgMember]; rfl)) ?_)
  refine wpAny_newObj_type ?_ (by size_fits)
  simp only [raiseNew]
  refine wpAny_bind (wpAny_handled ?_)
  rw [show A.in1.handled = none from hh]
  refine wpAny_bind (wpAny_pure (wpAny_throw ?_))
  exact h _ _ _ _ (((S.ext (Heap.SameBut.update ..).extBut s.toks).push0 _ s.toks).push0 _ s.toks) (Heap.get?_push_size _ rfl) rfl rfl rfl
theorem lnextI {i : Nat} {Q : Option Value → Shared → Prop} {C : Cx} {σ : Led} {x : Value} (S : Sat C ((it, itr l i) :: σ) s) (hl : (l, .lst xs) ∈ (it, itr l i) :: σ) (hx : xs[i]? = some x)
    (h : ∀ v s', er v = x → Sat C ((it, itr l (i + 1)) :: σ) s' → Q (some v) s') : wpAny (model prog w) A (callSpecial? (.ref it) (Str.ofString "__next__")) Q E s := by
  obtain ⟨oi, hoi, hci, hdi⟩ := S.get (.head _)
  obtain ⟨its, hL, he⟩ := S.isList hl
  have hx' := hx
  rw [← he, List.getElem?_map] at hx'
  obtain ⟨v, hv, hpv⟩ := Option.map_eq_some_iff.mp hx'
  have hxi : its[i]? = some v := by simpa using hv
  refine wpAny_callSpecial?_slot (name := Str.ofString "__next__") ⟨oi, hoi, hci⟩ slot_listiter_next
      (wpAny_call_entry slot_listiter_next ⟨oi, hoi, hci⟩ entry_listiter_next ?_ (args_listiter_next _))
  obtain ⟨ol, hol, _, nl, hdl⟩ := hL
  show wpAny _ _ (field (.ref it) 0 >>= _) _ _ s
  refine wpAny_bind (wpAny_field hoi hdi (x := .ref l) rfl ?_)
  show wpAny _ _ (if (Value.ref l == Value.none) = true then _ else _) _ _ s
  rw [if_neg (show ¬ ((Value.ref l == Value.none) = true) from Bool.false_ne_true)]
  show wpAny _ _ (field (.ref it) 1 >>= _) _ _ s
  refine wpAny_bind (wpAny_field hoi hdi (x := .int i 0) rfl ?_)
  show wpAny _ _ (seqItems? (.ref l) >>= _) _ _ s
  refine wpAny_bind (wpAny_seqItems hol hdl ?_)
  simp only [Int.toNat_natCast, hxi]
  refine wpAny_bind (wpAny_setField hoi hdi (by simp) (wpAny_pure ⟨v, rfl, h v _ hpv (S.set (Upd.head (p' := itr l (i + 1))) (Heap.SameBut.update ..)
    (Heap.get?_update_self _ hoi (Obj.isFreed_of_fields (Obj.data_mapFields hdi _))) ⟨(Obj.cls_mapFields ..).trans hci, ?_⟩ s.toks)⟩))
  rw [Obj.data_mapFields hdi]; simp [rawInt]
theorem entry_yf : entryFor table "proto.yield_from" = some Builtin.«proto.yield_from» := entryFor_of_tree (by kernel_rfl)
theorem den_of {id : String} {b : Builtin} (h : entryFor table id = some b) (a : Args) : denote table (.builtin id a) = b a := by
  simp only [denote, h]
theorem den_yf (a : Args) : denote table (.builtin "proto.yield_from" a) = Builtin.«proto.yield_from» a := den_of entry_yf a
theorem plain_yf : plainId "proto.yield_from" = true := by decide +kernel
theorem yf_list (hl : ∀ C τ, need C τ → (l, .lst xs) ∈ τ) (hsp : splitAtGen (.ret k hd gd lv c₁ p [] :: fs) = none) (hgd : (Frame.ret k hd gd lv c₁ p [] :: fs).any Frame.guarded = false)
    (hh : (A.over (.builtin "proto.yield_from" ⟨[.ref it, .bool false, .none], []⟩) (.ret k hd gd lv c₁ p [] :: fs)).handled = none)
    (hrest : Emits prog w A need g rest own c₁ (k (.ok (.ret .none))) fs) :
    ∀ n i, xs.length - i = n → Emits prog w A need g (xs.drop i ++ rest) ((it, itr l i) :: own) (.builtin "proto.yield_from" ⟨[.ref it, .bool false, .none], []⟩) (denote table (.builtin "proto.yield_from" ⟨[.ref it, .bool false, .none], []⟩)) (.ret k hd gd lv c₁ p [] :: fs) := by
  intro n
  induction n with
  | zero =>
    intro i hi C τ s hn S
    rw [den_yf]
    unfold Builtin.«proto.yield_from»
    dsimp only
    have hx : xs[i]? = none := List.getElem?_eq_none_iff.mpr (by wtm_at "om")
    rw [List.drop_eq_nil_iff.mpr (by wtm_at "om"), List.nil_append]
    refine sx_bind (wpAny_pure (sx_bind (wpAny_attempt (wpAny_holding ?_))))
    rw [if_neg Bool.false_ne_true, if_pos (show (Value.none == Value.none) = true from rfl)]
    refine wpAny_bind (wpAny_rule (wpAny_bind (lnextE S (by exact .tail _ (List.mem_append_right own (hl C τ hn))) hx hh fun e oe s₁ vs S₁ ho hc hd h5 => ?_)))
    have hT : s₁.TypeIs (.ref e) "StopIteration" := ⟨oe, ho, hc⟩
    show SegX _ _ _ (Builtin.Generator.endsTheTurnAsAValue false (.ref e) >>= _) _ _ _
    refine sx_bind ?_
    unfold Builtin.Generator.endsTheTurnAsAValue Builtin.Generator.isStopAndMetaclass
    refine wpAny_bind (wpAny_bind (wpAny_typeOf hT ?_))
    refine wpAny_bind (wpAny_of_eq isSubtype_stop ?_)
    refine wpAny_bind (wpAny_of_eq (a := Value.type "type") (by first | rfl | kernel_rfl) (wpAny_pure ?_))
    dsimp only
    rw [if_neg Bool.false_ne_true]
    refine wpAny_pure ?_
    rw [if_pos rfl, if_neg Bool.false_ne_true]
    refine sx_bind (wpAny_rule (sx_bind (wpAny_field ho hd h5 ?_)))
    exact s_pop prog w A _ _ _ _ (.ok (.ret .none)) _ rfl _ _ _ _ _ _ _ (hrest C τ s₁ hn S₁)
  | succ n ih =>
    intro i hi C τ s hn S
    rw [den_yf]
    unfold Builtin.«proto.yield_from»
    dsimp only
    have hlt : i < xs.length := by wtm_at "om"
    rw [List.drop_eq_getElem_cons hlt, List.cons_append]
    refine sx_bind (wpAny_pure (sx_bind (wpAny_attempt (wpAny_holding ?_))))
    rw [if_neg Bool.false_ne_true, if_pos (show (Value.none == Value.none) = true from rfl)]
    refine wpAny_bind (wpAny_rule (wpAny_bind (lnextI S (by exact .tail _ (List.mem_append_right own (hl C τ hn))) (List.getElem?_eq_getElem hlt) fun v s₁ hv S₁ => ?_)))
    obtain ⟨oi, hoi, hci, hdi⟩ := S₁.get (.head _)
    refine wpAny_pure ?_
    dsimp only
    refine sx_bind (wpAny_typeOf ⟨oi, hoi, hci⟩ ?_)
    dsimp only
    refine sx_bind (wpAny_of_eq listClose (sx_bind (wpAny_pure ?_)))
    have sl' : ∀ b (Q : Unit → Shared → Prop) E A s₂ (C : Cx) τ, Sat (C.withG g .running) ((it, itr l (i + 1)) :: own ++ τ) s₂ → Q () s₂ → wpAny (model prog w) A (Builtin.Generator.sleptOver (.ref it) b) Q E s₂ := by
      intro b Q E A s₂ C τ S₂ h
      obtain ⟨oi, hoi, hci, hdi⟩ := S₂.get (.head _)
      unfold Builtin.Generator.sleptOver
      refine wpAny_bind (wpAny_load hoi ?_)
      rw [hci]
      exact wpAny_pure h
    refine sx_bind (sl' _ _ _ _ _ _ _ S₁ ?_)
    show SegX _ _ _ (.yield v false [] _) _ _ _
    refine s_yield prog w A _ _ _ _ _ _ _ hsp hgd fun p' => ?_
    refine ⟨v, _, _, _, _, _, (it, itr l (i + 1)) :: own, rfl, hv, S₁, fun C' τ' s₂ hn' S₂ => ?_⟩
    show SegX _ _ _ (Builtin.Generator.sleptOver (.ref it) false >>= _) _ _ _
    refine sx_bind (sl' _ _ _ _ _ _ _ S₂ ?_)
    refine sx_bind (wpAny_of_eq (a := Value.none) rfl ?_)
    exact s_again prog w A _ _ _ _ _ (plainId_quiet plain_yf _) (ih (i + 1) (by wtm_at "om") C' τ' s₂ hn' S₂)
end
end
section
variable {prog : Program} {w : World} {A : Around} {E : Value → Shared → Prop} {C : Cx} {σ τ : Led} {s : Shared} {g : Nat} {it l : Addr} {xs : List Value} {env : Env}
theorem truthyL {Q : Bool → Shared → Prop} (S : Sat C σ s) (hl : (l, .lst xs) ∈ σ) (hz : xs.length ≤ 1000000) (h : ∀ s', Sat C σ s' → Q (!xs.isEmpty) s') : wpAny (model prog w) A (truthy (.ref l)) Q E s := by
  obtain ⟨its, hL, he⟩ := S.isList hl
  have hn := lst_len he
  refine wpAny_truthy_list hL (by rw [hn]; wtm_at "om") ?_
  have : (!its.isEmpty) = !xs.isEmpty := by rw [← he]; cases its with | mk l => cases l <;> rfl
  rw [this]
  exact h _ (S.tok _)
noncomputable def rvp (l : Addr) (n i : Nat) : PO := .prd fun o => o.cls = .type "list_reverseiterator" ∧ o.data = .fields #[.ref l, rawInt ((n : Int) - 1 - i)] ∧ i ≤ n
theorem itsRv (hh : A.handled = none) : Its C prog w A it (rvp l xs.length) xs.reverse (fun τ => (l, .lst xs) ∈ τ) where
  next := by
    intro i τ s Q E hl S h0 h1
    obtain ⟨oi, hoi, hci, hdi, hle⟩ := S.get (.head _)
    obtain ⟨its, hL, he⟩ := S.isList (.tail _ hl)
    have hn := lst_len he
    by_cases hi : i < xs.length
    · have e1 : (xs.length : Int) - 1 - i = ((xs.length - 1 - i : Nat) : Int) := by wtm_at "om"
      have hIt : s.heap.IsRevIter it l ((xs.length - 1 - i : Nat) : Int) := ⟨oi, hoi, hci, by rw [← e1]; exact hdi⟩
      have hx : xs.reverse[i]? = some (xs[xs.length - 1 - i]'(by wtm_at "om")) := by
        rw [List.getElem?_reverse hi, List.getElem?_eq_getElem (by wtm_at "om")]
      obtain ⟨v, hv⟩ : ∃ v, its[xs.length - 1 - i]? = some v := ⟨_, Array.getElem?_eq_getElem (by wtm_at "om")⟩
      have e2 : er v = xs[xs.length - 1 - i]'(by wtm_at "om") := by
        have : (its.toList.map er)[xs.length - 1 - i]? = some (er v) := by rw [List.getElem?_map, Array.getElem?_toList, hv]; rfl
        rw [he, List.getElem?_eq_getElem (by wtm_at "om")] at this
        exact (Option.some.inj this).symm
      refine wpAny_pyNext_rev_item hIt hL hv fun h' hIt' hs => ?_
      obtain ⟨o', ho', hc', hd'⟩ := hIt'
      refine h1 _ v hx e2 _ (S.set (Upd.head (p' := rvp l xs.length (i + 1))) hs ho' ⟨hc', ?_, hi⟩ s.toks)
      rw [hd', show ((xs.length - 1 - i : Nat) : Int) - 1 = (xs.length : Int) - 1 - ((i + 1 : Nat) : Int) by wtm_at "om"]
    · have hx : xs.reverse[i]? = none := by rw [List.getElem?_eq_none_iff, List.length_reverse]; wtm_at "om"
      have e1 : (xs.length : Int) - 1 - i = -1 := by wtm_at "om"
      exact wpAny_pyNext_rev_end hh ⟨oi, hoi, hci, by rw [← e1]; exact hdi⟩ fun h' hx' => h0 hx _ (S.ext hx' _)
  self := by
    intro i τ s Q E S h
    obtain ⟨oi, hoi, hci, hdi, _⟩ := S.get (.head _)
    exact wpAny_pyIter_revIter ⟨oi, hoi, hci, hdi⟩ h
section
variable {need : Cx → Led → Prop} {c₁ : Code} {k : Result → Sem Fin} {hd : Option Value} {gd : Bool} {lv : List Value} {p : Pos} {n : Str} {pn pt pv py pe pi : Pos} {m₀ : List (Str × Value)}
theorem gen_loop (cont : Value → List Value) (hl : ∀ C τ, need C τ → (l, .lst xs) ∈ τ) (hc : ∀ C τ, need C τ → ∀ v ∈ xs, ∃ a, v = .ref a ∧ (a, .lst (cont v)) ∈ τ) (hz : ∀ v, (cont v).length ≤ 1000000)
    (hgd : gd = false) (hh : A.handled = none) (hk : env.scope.kind = .function) (hn : env.kindOf n = some .local) (hi : interactive env = false) (hdb : (n == ("__debug__" : Str)) = false) (hhd : hd = none)
    (hfin : ∀ m, Emits prog w A need g [] [(env.locals, .ns m)] c₁ (k (.ok .next)) []) :
    ∀ r i m, xs.length - i = r → Emits prog w A need g ((xs.reverse.drop i).flatMap cont) [(it, rvp l xs.length i), (env.locals, .ns m)]
      (.forLoop (.Name n pn) (.ref it) [.If (.Name n pt) [.Expr (.YieldFrom (.Name n pv) py) pe] [] pi] [] env)
      (denote table (.forLoop (.Name n pn) (.ref it) [.If (.Name n pt) [.Expr (.YieldFrom (.Name n pv) py) pe] [] pi] [] env)) [.ret k hd gd lv c₁ p []] := by
  subst hhd hgd
  intro r
  have hA : (A.over (.forLoop (.Name n pn) (.ref it) [.If (.Name n pt) [.Expr (.YieldFrom (.Name n pv) py) pe] [] pi] [] env) [.ret k none false lv c₁ p []]).handled = none := by
    show _ = _
    simp only [Around.over, hh]
    rfl
  induction r with
  | zero =>
    intro i m hi' C τ s hn' S
    show SegX _ _ _ ((forTurn _ _ _ _ _).onRaise _) _ _ _
    unfold forTurn
    rw [Sem.onRaise_eq_wrap]
    refine sx_bw (wpAny_standAt ?_)
    refine sx_bw (wpAny_onRaise ((itsRv hA).next (by exact .tail _ (hl C τ hn')) S (fun _ s₁ S₁ => ?_) fun q v hq => ?_))
    · dsimp only
      rw [List.drop_eq_nil_iff.mpr (by rw [List.length_reverse]; wtm_at "om")]
      show SegX _ _ _ (.pure (.again (.block [] env))) _ _ _
      refine s_again prog w A _ _ _ _ _ (by rfl) ?_
      show SegX _ _ _ (.pure (.done .next)) _ _ _
      exact s_pop prog w A _ _ _ _ (.ok .next) _ rfl _ _ _ _ _ _ _ (hfin m C τ s₁ hn' S₁)
    · have : xs.reverse[i]? = none := by rw [List.getElem?_eq_none_iff, List.length_reverse]; wtm_at "om"
      rw [this] at hq; cases hq
  | succ r ih =>
    intro i m hi' C τ s hn' S
    show SegX _ _ _ ((forTurn _ _ _ _ _).onRaise _) _ _ _
    unfold forTurn
    rw [Sem.onRaise_eq_wrap]
    refine sx_bw (wpAny_standAt ?_)
    have hlt : i < xs.reverse.length := by rw [List.length_reverse]; wtm_at "om"
    refine sx_bw (wpAny_onRaise ((itsRv hA).next (by exact .tail _ (hl C τ hn')) S (fun hx s₁ S₁ => ?_) fun q v hq hv s₁ S₁ => ?_))
    · rw [List.getElem?_eq_none_iff] at hx; wtm_at "om"
    dsimp only
    have hqm : q ∈ xs := List.mem_reverse.mp (List.mem_of_getElem? hq)
    obtain ⟨a, rfl, ham⟩ := hc C τ hn' q hqm
    have hv : v = .ref a := by cases v <;> simp only [er] at hv <;> cases hv; rfl
    subst hv
    have hd : xs.reverse.drop i = .ref a :: xs.reverse.drop (i + 1) := by
      rw [List.drop_eq_getElem_cons hlt, (List.getElem?_eq_some_iff.mp hq).2]
    rw [hd, List.flatMap_cons]
    refine sx_bw (wpAny_of_eq (a := ()) rfl ?_)
    refine sx_bw (wpAny_assign_Name (stL S₁ (.tail .head) hn hk fun s₂ S₂ => ?_))
    rw [Sem.bind_eq_wrap', Sem.wrap_wrap, execs_cons_wrap, arm_exec_If]
    refine sx_bw (wpAny_standAt ?_)
    refine sx_bw (wpAny_isTrue_value (wpAny_Name (ldL (pv := .ref a) (m := (n, .ref a) :: m) S₂ (.tail _ (.head _)) (by rw [List.lookup_cons]; simp) hk hn ?_) hdb))
    have hs3 : ∀ s₃, Sat (C.withG g .running) ((it, rvp l xs.length (i + 1)) :: (env.locals, PO.ns ((n, .ref a) :: m)) :: τ) s₃ → _ := fun s₃ S₃ => ih (i + 1) ((n, .ref a) :: m) (by wtm_at "om") C τ s₃ hn' S₃
    refine truthyL S₂ (.tail _ (.tail _ ham)) (hz _) fun s₃ S₃ => ?_
    cases he : (cont (.ref a)).isEmpty with
    | true =>
      rw [List.isEmpty_iff.mp he, List.nil_append]
      show SegX _ _ _ (.pure (.again _)) _ _ _
      exact s_again prog w A _ _ _ _ _ (by rfl) (hs3 s₃ S₃)
    | false =>
      show SegX _ _ _ (Sem.wrap _ _ _ _ (execs _ _)) _ _ _
      rw [execs_cons_wrap, exec_Expr env _ _ hi rfl]
      refine sx_bw (wpAny_standAt ?_)
      rw [Sem.bind_eq_wrap', Sem.wrap_wrap, arm_eval_YieldFrom]
      refine sx_bw (wpAny_Name (ldL (pv := .ref a) (m := (n, .ref a) :: m) S₃ (.tail _ (.head _)) (by rw [List.lookup_cons]; simp) hk hn ?_) hdb)
      refine sx_bw (wpAny_standAt ?_)
      unfold yieldFrom
      obtain ⟨oa, hoa, its, nn, rfl, hea⟩ := S₃.get (.tail _ (.tail _ ham))
      refine sx_bw (wpAny_typeOf ⟨_, hoa, rfl⟩ ?_)
      show SegX _ _ _ (Sem.wrap _ _ _ _ (holding [Value.ref a] (pyIter (.ref a)) >>= _)) _ _ _
      refine sx_bw (wpAny_holding (iterL S₃ (.tail _ (.tail _ ham)) fun it2 s₄ S₄ => ?_))
      refine s_call prog w A _ _ _ _ _ _ _ _ _ fun p' => ?_
      refine yf_list (l := a) (xs := cont (.ref a)) (own := [(it, rvp l xs.length (i + 1)), (env.locals, PO.ns ((n, .ref a) :: m))]) (fun C τ h => by obtain ⟨a', e, h'⟩ := hc C τ h _ hqm; cases e; exact h') (by rfl) (by rfl) ?_ ?_ _ 0 rfl C τ s₄ hn' S₄
      · show _ = _
        simp only [Around.over, hh]
        rfl
      · intro C τ s hn S
        exact s_again prog w A _ _ _ _ _ (by rfl) (ih (i + 1) ((n, .ref a) :: m) (by wtm_at "om") C τ s hn S)
theorem revL {Q : Value → Shared → Prop} (S : Sat C σ s) (hl : (l, .lst xs) ∈ σ) (h : ∀ it s', Sat C ((it, rvp l xs.length 0) :: σ) s' → Q (.ref it) s') : wpAny (model prog w) A (call (.type "reversed") [.ref l]) Q E s := by
  obtain ⟨its, hL, he⟩ := S.isList hl
  refine call_reversed_list hL (h _ _ (S.push (p := rvp l xs.length 0) ⟨rfl, ?_, Nat.zero_le _⟩ rfl s.toks))
  rw [lst_len he, show (xs.length : Int) - 1 - ((0 : Nat) : Int) = (xs.length : Int) - 1 by wtm_at "om"]
  rfl
theorem gen_func {f a : Str} {pf pa pc pfor : Pos} {m : List (Str × Value)} (cont : Value → List Value) (hl : ∀ C τ, need C τ → (l, .lst xs) ∈ τ) (hc : ∀ C τ, need C τ → ∀ v ∈ xs, ∃ a, v = .ref a ∧ (a, .lst (cont v)) ∈ τ) (hz : ∀ v, (cont v).length ≤ 1000000)
    (hh : A.handled = none) (hk : env.scope.kind = .function) (hn : env.kindOf n = some .local) (hi : interactive env = false) (hdb : (n == ("__debug__" : Str)) = false)
    (hf : env.kindOf f = some .local) (hfm : m.lookup f = some (.type "reversed")) (hdf : (f == ("__debug__" : Str)) = false) (ha : env.kindOf a = some .local) (ham : m.lookup a = some (.ref l)) (hda : (a == ("__debug__" : Str)) = false)
    (hs : ∀ x, foldedSetIterable (.Call (.Name f pf) [.Name a pa] [] pc) env x = pure x) :
    Emits prog w A need g (xs.reverse.flatMap cont) [(env.locals, .ns m)] (.func [.For (.Name n pn) (.Call (.Name f pf) [.Name a pa] [] pc) [.If (.Name n pt) [.Expr (.YieldFrom (.Name n pv) py) pe] [] pi] [] pfor] env)
      (denote table (.func [.For (.Name n pn) (.Call (.Name f pf) [.Name a pa] [] pc) [.If (.Name n pt) [.Expr (.YieldFrom (.Name n pv) py) pe] [] pi] [] pfor] env)) [] := by
  intro C τ s hn' S
  show SegX _ _ _ (.point [] fun _ => ((execs _ env).onRaise (leaving env)) >>= _) _ _ _
  refine sx_wrap (m := point) (K := fun _ => _) (H := .raise) (gd := id) (lv := fun _ => []) (wpAny_point ?_)
  rw [Sem.onRaise_eq_wrap, Sem.bind_eq_wrap', Sem.wrap_wrap, execs_cons_wrap, exec_For]
  refine sx_bw (wpAny_standAt ?_)
  refine sx_bw ?_
  refine Call_Name rfl (wpAny_Name (ldL S (.head _) hfm hk hf ?_) hdf)
  refine PyProof.Rows.callWith_type1 ?_
  refine wpAny_items_cons (wpAny_Name (ldL S (.head _) ham hk ha ?_) hda)
  refine wpAny_items_nil ?_
  refine revL S (.tail _ (hl C τ hn')) fun it s₁ S₁ => ?_
  refine sx_bw (wpAny_of_eq (hs _) ?_)
  refine sx_bw (wpAny_standAt ?_)
  refine sx_bw (wpAny_holding ((itsRv (xs := xs) (l := l) (C := C.withG g .running) (by show _ = _; simp only [Around.over, hh]; rfl)).self S₁ ?_))
  refine s_call prog w A _ _ _ _ _ _ _ _ _ fun p' => ?_
  refine gen_loop cont hl hc hz rfl hh hk hn hi hdb rfl (fun m => ?_) _ 0 m rfl C τ s₁ hn' S₁
  intro C τ s hn S
  show SegX _ _ _ (.pure (.done (.ret .none))) _ _ _
  exact s_end prog w A _ _ _ (.ok (.ret .none)) _ rfl ⟨rfl, S.sub (List.sublist_cons_self _ _)⟩
end
end
section
variable {prog : Program} {w : World} {A : Around} {E : Value → Shared → Prop} {C : Cx} {σ τ : Led} {s : Shared} {g : Nat} {it l f : Addr} {xs : List Value} {env : Env}
noncomputable def gob (g : Nat) : PO := .prd fun o => ∃ nm qn, o.cls = .type "generator" ∧ o.data = .fields #[.int g 0, nm, qn] ∧ o.slots = #[]
theorem Sat.newG (S : Sat C σ s) (c : Code) : Sat (C.withG s.gens.size (.fresh c)) σ { s with gens := s.gens.push (.fresh c) } := by
  refine ⟨S.old, S.stat, S.led, S.low, S.nd, S.os, S.gens.push rfl, fun p hp => ?_, S.tk, S.lam⟩
  rcases List.mem_cons.mp hp with rfl | hp
  · show (s.gens.push _)[s.gens.size]? = _
    rw [Array.getElem?_push_size]
  · have h := S.gl p hp
    show (s.gens.push _)[p.1]? = _
    rw [Array.getElem?_push_lt (Array.getElem?_eq_some_iff.mp h).1]
    exact (Array.getElem?_eq_getElem _).symm.trans h
theorem Sat.freshG (S : Sat C σ s) : ∀ p ∈ C.gl, p.1 ≠ s.gens.size := fun p hp e => by
  have := (Array.getElem?_eq_some_iff.mp (S.gl p hp)).1
  rw [e] at this
  exact Nat.lt_irrefl _ this
theorem callGen {Q : Value → Shared → Prop} {nm qual : Str} {params : Arguments} {body : List Stmt} {scope : Scope} {cl : List (Str × Addr)} {dV kV doc pm cdv ct oc : Value} {an od : Option Addr} {osl : Array (Option Value)} {args : Args} {binds : List (Str × Value)}
    (S : Sat C σ s) (hroom : A.depth < recursionLimit) (ho : C.K.lookup f = some ⟨oc, od, .func (fnX nm qual params body scope cl dV kV doc pm an cdv ct), osl⟩) (hcd : codeIn C.K cdv qual = true)
    (hbind : BindsTo s (fnX nm qual params body scope cl dV kV doc pm an cdv ct) args binds) (hloc : ∀ y ∈ binds, scope.names.lookup y.1 = some .local)
    (h : ∀ L a g s', (∀ p ∈ C.gl, p.1 ≠ g) → Sat (C.withG g (.fresh (.func body (envX qual scope L f cdv cl)))) ((a, gob g) :: (L, .ns (binds.reverse.map fun y => (y.1, er y.2))) :: σ) s' → Q (.ref a) s')
    (hco : scope.isCoroutine = false := by rfl) (hgen : scope.isGenerator = true := by rfl) (hk : scope.kind = .function := by rfl) (hcell : ∀ x ∈ scope.names, x.2 ≠ .cell := by decide) :
    wpAny (model prog w) A (call (.ref f) args.pos args.kw) Q E s := by
  refine wpAny_call ?_
  refine codeAny_call_generator (fd := fnX nm qual params body scope cl dV kV doc pm an cdv ct) (body := body) hroom (S.kin _ _ ho) rfl hco hgen rfl (codeRec_of S.kin hcd) ?_
  refine hbind _ _ _ _ ?_
  refine wpAny_newFunctionEnv hcell hloc (fun h₁ hns hsb => ?_) hk
  have kk : ∀ b o, s.heap.get? b = some o → h₁.get? b = some o := fun b o e => hsb.extBut b o (Nat.ne_of_lt (Heap.lt_size e)) (Heap.get?_push_of_some _ e)
  obtain ⟨o', ho', hp'⟩ := PO.of_ns (m := binds.reverse.map fun y => (y.1, er y.2)) hns (fun x => by
      induction binds.reverse with
      | nil => rfl
      | cons y r ih =>
        rw [List.lookup_cons, List.map_cons, List.lookup_cons]
        cases (x == y.1) <;> simp_all)
  have S₁ := S.grow kk (Nat.le_refl _) ho' hp' (s.toks + binds.length)
  refine ⟨S₁.lim, ?_⟩
  have S₂ := S₁.push (p := gob s.gens.size) (o := { cls := .type "generator", data := .fields #[.int s.gens.size 0, .str nm (s.toks + binds.length), .str qual (s.toks + binds.length + 1)] }) ⟨_, _, rfl, rfl, rfl⟩ rfl (s.toks + binds.length + 1 + 1)
  exact h s.heap.objs.size _ s.gens.size _ S.freshG (S₂.newG (.func body (envX qual scope s.heap.objs.size f cdv cl)))
end
section
variable {prog : Program} {w : World} {A : Around} {E : Value → Shared → Prop} {C : Cx} {σ σ' τ : Led} {s : Shared} {it l a : Addr} {P : Str → Bool} {n : Nat} {Q : Value → Shared → Prop} {x : Str} {t : Tok}
noncomputable def stp (prog : Program) (w : World) (P : Str → Bool) (n : Nat) : PO := .prd fun o => o.SetObjOf (PySem.strKind prog w) P n
theorem Sat.setOf (S : Sat C σ s) (hm : (a, stp prog w P n) ∈ σ) (hn : n < 4096) : s.heap.SetOf (PySem.strKind prog w) a P n := by
  obtain ⟨o, ho, hp⟩ := S.get hm
  exact Obj.SetObjOf.setOf hp ho hn
theorem inS (S : Sat C σ s) (hm : (a, stp prog w P n) ∈ σ) (hn : n < 4096) (h : ∀ s', Sat C σ s' → Q (.bool (P x)) s') : wpAny (model prog w) A (compareOp .In (.str x t) (.ref a)) Q E s :=
  wpAny_inSet_of (k := x) (strKind_is ..) rfl (S.setOf hm hn) (h _ (S.tok _))
theorem notInS (S : Sat C σ s) (hm : (a, stp prog w P n) ∈ σ) (hn : n < 4096) (h : ∀ s', Sat C σ s' → Q (.bool (!P x)) s') : wpAny (model prog w) A (compareOp .NotIn (.str x t) (.ref a)) Q E s :=
  wpAny_notInSet_of (k := x) (strKind_is ..) rfl (S.setOf hm hn) (h _ (S.tok _))
theorem addS (S : Sat C σ s) (hn : n + 1 < 4096) (U : Upd a (stp prog w P n) (stp prog w (fun y => P y || decide (y = x)) (if P x then n else n + 1)) σ σ') (h : ∀ s', Sat C σ' s' → Q .none s') :
    wpAny (model prog w) A (call (.builtin "set.add") [.ref a, .str x t]) Q E s := by
  refine call_set_add (k := x) (strKind_is ..) rfl (S.setOf U.mem (by wtm_at "om")) hn fun h' hs hS => ?_
  obtain ⟨o, ho, hp⟩ := hS.objOf
  exact h _ (S.set U hs ho hp _)
theorem gmS {pl : Sem Bool} {Q : Value × List Value → Shared → Prop} (S : Sat C σ s) (hm : (a, stp prog w P n) ∈ σ) (hn : n < 4096) (h : Q (.builtin "set.add", [.ref a]) s) : wpAny (model prog w) A (getMethod (.ref a) "add" pl) Q E s :=
  getMethod_set_add (S.setOf hm hn) h
theorem newS0 (S : Sat C σ s) (h : ∀ a s', Sat C ((a, stp prog w (fun _ => false) 0) :: σ) s' → Q (.ref a) s') : wpAny (model prog w) A (call (.type "set") []) Q E s :=
  call_set_0 fun led => h _ _ (S.push (p := stp prog w (fun _ => false) 0) (setObjOf_fresh led) rfl s.toks)
section
variable {po : Nat → PO} {xs : List Str} {need : Led → Prop} {R : Result → Shared → Prop}
theorem set_loop (I : Its C prog w A.in1 it po (txts xs) need) (hz : xs.length + 1 < 4096) (hneed : ∀ q τ, need τ → need (q :: τ)) :
    ∀ k i P n s, xs.length - i = k → i ≤ xs.length → need τ → n ≤ i → Sat C ((it, po i) :: (a, stp prog w P n) :: τ) s →
      (∀ s' n', n' ≤ xs.length → Sat C ((a, stp prog w (fun y => P y || (xs.drop i).any fun z => decide (y = z)) n') :: τ) s' → R (.ok (.ret .none)) s') →
      codeAny (model prog w) A (.builtin "set.update.loop" ⟨[.ref a, .ref it], []⟩) R s := by
  intro k
  induction k with
  | zero =>
    intro i P n s hk hi hn hni S h
    refine codeAny_builtin F.entry_set_update_loop ?_
    rw [Around.under_plainId F.plain_set_update_loop _]
    show wpAny _ A.in1 (pyNext (.ref it) >>= _) _ _ s
    have hx : (txts xs)[i]? = none := by rw [List.getElem?_eq_none_iff, List.length_map]; wtm_at "om"
    refine wpAny_bind (I.next (hneed _ _ hn) S (fun _ s' S' => ?_) fun p v hp => ?_)
    · show wpAny _ A.in1 (ret Value.none) _ _ s'
      refine wpAny_pure (h s' n (by wtm_at "om") ?_)
      have e : (fun y => P y || (xs.drop i).any fun z => decide (y = z)) = P := by
        funext y
        rw [List.drop_eq_nil_iff.mpr (by wtm_at "om"), List.any_nil, Bool.or_false]
      rw [e]; exact S'
    · rw [hx] at hp; cases hp
  | succ k ih =>
    intro i P n s hk hi hn hni S h
    refine codeAny_builtin F.entry_set_update_loop ?_
    rw [Around.under_plainId F.plain_set_update_loop _]
    show wpAny _ A.in1 (pyNext (.ref it) >>= _) _ _ s
    have hlt : i < xs.length := by wtm_at "om"
    refine wpAny_bind (I.next (hneed _ _ hn) S (fun hx => ?_) fun p v hp hv s' S' => ?_)
    · rw [List.getElem?_eq_none_iff, List.length_map] at hx; wtm_at "om"
    have hp' : p = .str xs[i] 0 := by
      rw [List.getElem?_map, List.getElem?_eq_getElem hlt] at hp
      exact (Option.some.inj hp).symm
    subst hp'
    obtain ⟨t, rfl⟩ := er_str hv
    show wpAny _ A.in1 (holding [Value.str xs[i] t] (setAdd a (.str xs[i] t)) >>= _) _ _ s'
    refine wpAny_bind (wpAny_holding ?_)
    unfold setAdd
    refine wpAny_holding (wpAny_bind ((PySem.strKind prog w).pyHash (k := xs[i]) (strKind_is ..) ?_))
    refine wpAny_setAddHashed_of (knd := PySem.strKind prog w) (s := { s' with toks := s'.toks + 1 }) (strKind_is ..) rfl (S'.setOf (.tail _ (.head _)) (by wtm_at "om")) (by show n + 1 < 4096; wtm_at "om") fun h' hs hS => ?_
    obtain ⟨o, ho, hp⟩ := hS.objOf
    have S₂ := S'.set (.tail (.head (p' := stp prog w (fun y => P y || decide (y = xs[i])) (if P xs[i] then n else n + 1)))) hs ho hp (s'.toks + 1)
    refine wpAny_pure ⟨plainId_quiet F.plain_set_update_loop _, ih (i + 1) _ _ _ (by wtm_at "om") (by wtm_at "om") hn (by split <;> wtm_at "om") S₂ fun s'' n' hn' S'' => h s'' n' hn' ?_⟩
    have e : (fun y => P y || (xs.drop i).any fun z => decide (y = z)) = fun y => (P y || decide (y = xs[i])) || (xs.drop (i + 1)).any fun z => decide (y = z) := by
      funext y
      rw [List.drop_eq_getElem_cons hlt, List.any_cons, Bool.or_assoc]
    rw [e]; exact S''
end
theorem Sat.weak {p q : PO} (S : Sat C ((a, p) :: σ) s) (h : ∀ o, p.Of o → q.Of o) : Sat C ((a, q) :: σ) s :=
  ⟨S.old, S.stat, fun r hr => by
    rcases List.mem_cons.mp hr with rfl | hr
    · obtain ⟨o, ho, hp⟩ := S.get (.head _); exact ⟨o, ho, h o hp⟩
    · exact S.led r (.tail _ hr),
   fun r hr => by
    rcases List.mem_cons.mp hr with rfl | hr
    · exact S.low (a, p) (.head _)
    · exact S.low r (.tail _ hr), S.nd, S.os, S.gens, S.gl, S.tk, S.lam⟩
set_option maxHeartbeats 3200000 in
theorem setInit {l : Addr} {led : Bool} {R : Result → Shared → Prop} (S₁ : Sat C ((a, .raw { cls := .type "set", dict := none, data := .set #[] 0 (.fresh 0 0 led) }) :: σ) s) (hl : (l, .lst (txts xs)) ∈ σ) (hz : xs.length + 1 < 4096) (hh : A.handled = none)
    (h : ∀ n s', n ≤ xs.length → Sat C ((a, stp prog w (fun y => xs.any fun z => decide (y = z)) n) :: σ) s' → R (.ok (.ret .none)) s') :
    wpAny (model prog w) A.in1.in1 (Builtin.«set.__init__» ⟨[.ref a, .ref l], []⟩) (fun fin s' => match fin with | .done f => R (.ok f) s' | .again c' => c'.quiet = true ∧ codeAny (model prog w) A.in1 c' R s') (fun e s' => R (.error e) s') s := by
  obtain ⟨ol, hol, its, nl, rfl, hel⟩ := S₁.get (.tail _ hl)
  obtain ⟨oa, hoa, hpa⟩ := S₁.get (.head _)
  have hpa : oa = _ := hpa
  subst hpa
  have hsls := F.sub_list_set
  have hslf := F.sub_list_frozenset
  have hne : (Value.type "list" == Value.type "dict") = false := by decide
  have S₂ := S₁.weak (q := stp prog w (fun _ => false) 0) fun o ho => by rw [show o = _ from ho]; exact setObjOf_fresh led
  unfold Builtin.«set.__init__» noKeywords Builtin.Frozenset.updateFrom
  generalize hPI : pyIter = PI
  obtain ⟨hp, g, d, tk, os⟩ := s
  wp_walk
  subst hPI
  refine iterL S₂ (.tail _ hl) fun it s' S' => ?_
  refine wpAny_bind (wpAny_runValue (set_loop (xs := xs) (need := fun τ => (l, .lst (txts xs)) ∈ τ) (itsL (by exact hh)) hz (fun q τ h => (List.Mem.tail q h : (l, PO.lst (txts xs)) ∈ q :: τ)) _ 0 _ 0 s' rfl (Nat.zero_le _) hl (Nat.le_refl _) S' fun s'' n' hn' S'' => ?_))
  refine wpAny_pure (wpAny_pure (h n' s'' hn' ?_))
  have e : (fun y => false || (xs.drop 0).any fun z => decide (y = z)) = fun y => xs.any fun z => decide (y = z) := by funext y; simp
  rw [← e]; exact S''
end
section
variable {prog : Program} {w : World} {A : Around} {E : Value → Shared → Prop} {C : Cx} {σ σ' τ : Led} {s : Shared} {it l a : Addr} {P : Str → Bool} {n : Nat} {Q : Value → Shared → Prop} {xs : List Str}
set_option maxHeartbeats 3200000 in
theorem setOfL {l : Addr} (S : Sat C σ s) (hl : (l, .lst (txts xs)) ∈ σ) (hz : xs.length + 1 < 4096) (hh : A.handled = none)
    (h : ∀ a n s', n ≤ xs.length → Sat C ((a, stp prog w (fun y => xs.any fun z => decide (y = z)) n) :: σ) s' → Q (.ref a) s') : wpAny (model prog w) A (call (.type "set") [.ref l]) Q E s := by
  obtain ⟨c, tl, hmro⟩ := F.called_set.mro
  have hmade := F.called_set.made
  have hsub := F.called_set.sub
  refine wpAny_call (codeAny_of_tree ?_)
  show wpAny _ _ (callAny (.type "set") _) _ _ _
  refine wpAny_pure ⟨Code.quiet_builtin _ (by decide +kernel), codeAny_builtin F.entry_type_call ?_⟩
  rw [Around.under_plain (weight_type_call_type "set" [.ref l] []) rfl]
  have h1 := F.called_set.notType
  have h2 := F.called_set.canCreate
  have hct := F.typeCall_set_1 (.ref l)
  repeat (any_goals (first | assumption | wp_step))
  refine codeAny_mono (code_set_new_1 (.ref l) (E := E) (Q₁ := fun obj s₁ => ∃ a led, obj = .ref a ∧ Sat C ((a, .raw { cls := .type "set", dict := none, data := .set #[] 0 (.fresh 0 0 led) }) :: σ) s₁)
    fun led => ⟨_, led, rfl, S.push (p := .raw _) rfl rfl s.toks⟩) fun r s₁ hr => ?_
  cases r with
  | error e => exact hr
  | ok fl =>
    cases fl with
    | ret obj =>
      obtain ⟨a, led, rfl, S₁⟩ := hr
      obtain ⟨oa, hoa, hpa⟩ := S₁.get (.head _)
      have hpa : oa = _ := hpa
      subst hpa
      have hT : s₁.TypeIs (.ref a) "set" := ⟨_, hoa, rfl⟩
      have hli := F.called_set.init.lookup
      have hbi := F.called_set.init.bind (.ref a)
      repeat (any_goals (first | assumption | wp_step))
      refine codeAny_mono (codeAny_call_builtin (R := wants (fun r s₂ => r = .none ∧ ∃ n, n ≤ xs.length ∧ Sat C ((a, stp prog w (fun y => xs.any fun z => decide (y = z)) n) :: σ) s₂) E) F.called_set.init.plain F.entry_set_init (check_set_init_1 hT ?_)) fun r₂ s₂ hr₂ => ?_
      · exact setInit S₁ hl hz hh fun n s₂ hn S₂ => ⟨rfl, n, hn, S₂⟩
      · cases r₂ with
        | error e => exact hr₂
        | ok fl₂ =>
          cases fl₂ with
          | ret r =>
            obtain ⟨rfl, n, hn, S₂⟩ := hr₂
            repeat (any_goals (first | assumption | wp_step))
            exact h _ n _ hn S₂
          | _ => exact hr₂.elim
    | _ => exact hr.elim
end
theorem Rm.under {n : Nat} {A : Around} {c : Addr} {rest : List Value} {kw : List (Str × Value)} (r : Rm (n + 1) A) : Rm n (A.under (.builtin "type.__call__" ⟨.ref c :: rest, kw⟩)) :=
  ⟨r.hand, by have := r.dep; show A.depth + 1 + _ < _; wtm_at "om", by have := r.un; show A.units + 1 + _ < _; wtm_at "om"⟩
section
variable {prog : Program} {w : World} {A : Around} {E : Value → Shared → Prop} {C : Cx} {σ σ' τ : Led} {s : Shared} {it l a : Addr} {n : Nat} {Q : Value → Shared → Prop}
theorem newI {Cc fI : Addr} {rest : List Value} {kw : List (Str × Value)} (S : Sat C σ s) (hm : makesIn C.K Cc = true) (hi : findIn C.K (.ref Cc) "__init__" = some (some (.ref fI))) (hf : typeIn C.K (.ref fI) = some (.type "function"))
    (h : ∀ x d s', Sat C ((x, .ins Cc d) :: (d, .idc []) :: σ) s' → codeAny (model prog w) (A.under (.builtin "type.__call__" ⟨.ref Cc :: rest, kw⟩)) (.call (.ref fI) ⟨.ref x :: rest, kw⟩)
      (fun r s'' => r = .ok (.ret .none) ∧ Q (.ref x) s'') s') : wpAny (model prog w) A (call (.ref Cc) rest kw) Q E s := by
  refine wpAny_call ?_
  have S₁ := S.push (p := .idc []) (o := emptyDict) ⟨#[], 0, rfl, by intro e he; simp at he, fun x => rfl, Nat.zero_le _⟩ rfl s.toks
  have S₂ := S₁.push (p := .ins Cc s.heap.objs.size) (o := instObj Cc s.heap.objs.size) rfl rfl s.toks
  rw [Heap.size_push] at S₂
  have z := h _ _ _ S₂
  obtain ⟨hh, g, d, t, os⟩ := s
  refine make_core (makes_of S.kin hm) (looks_findIn S.kin hi) (fun self => bind_fn S.kin self hf) (.inl rfl) (codeAny_mono z fun r s' hr => ?_)
  obtain ⟨rfl, hq⟩ := hr
  exact ⟨rfl, hq⟩
end
noncomputable def repl (name : Str) (v : Value) : List (Str × Value) → List (Str × Value)
  | [] => []
  | p :: r => if name == p.1 then (p.1, v) :: r else p :: repl name v r
theorem repl_length (name : Str) (v : Value) : ∀ m : List (Str × Value), (repl name v m).length = m.length
  | [] => rfl
  | p :: r => by
    unfold repl
    split
    · rfl
    · rw [List.length_cons, List.length_cons, repl_length name v r]
theorem repl_lookup (name : Str) (v : Value) (x : Str) : ∀ m : List (Str × Value), (m.lookup name).isSome = true → (repl name v m).lookup x = if x = name then some v else m.lookup x
  | [], h => by cases h
  | p :: r, h => by
    rw [List.lookup_cons] at h
    unfold repl
    cases hp : (name == p.1) with
    | true =>
      have e := beq_iff_eq.mp hp
      rw [if_pos rfl, List.lookup_cons, List.lookup_cons]
      by_cases hx : x = name
      · rw [if_pos hx, hx, hp]
      · have : (x == p.1) = false := beq_eq_false_iff_ne.mpr (by rw [← e]; exact hx)
        rw [if_neg hx, this]
    | false =>
      rw [hp] at h
      rw [if_neg Bool.false_ne_true, List.lookup_cons, List.lookup_cons, repl_lookup name v x r h]
      by_cases hx : x = name
      · subst hx; simp [hp]
      · cases (x == p.1) <;> simp [hx]
section
variable {name : Str} {o : Obj} {m : List (Str × Value)} {v : Value}
theorem putName_in (hp : (PO.idc m).Of o) (hs : (m.lookup name).isSome = true) (hsh : Int) (t : Tok) : (PO.idc (repl name (er v) m)).Of (Obj.putName name hsh (.str name t) v o) ∧ (Obj.putName name hsh (.str name t) v o).isFreed = false := by
  obtain ⟨es, ep, hd, k, f, z⟩ := hp
  obtain ⟨c, d, dt, sl⟩ := o
  subst hd
  have hi : ∃ i, es.findIdx? (·.key.isStr name) = some i := by
    have h1 := f name
    have h2 : (nsFind es name).isSome = true := by rw [← Option.isSome_map (f := er), h1]; exact hs
    cases hi : es.findIdx? (·.key.isStr name) with
    | some i => exact ⟨i, rfl⟩
    | none =>
      rw [Array.findIdx?_eq_none_iff] at hi
      unfold nsFind findBy at h2
      rw [Option.isSome_map, Array.find?_isSome] at h2
      obtain ⟨e, he, h⟩ := h2
      have := hi e he
      rw [show e.key.isStr name = true from h] at this
      cases this
  obtain ⟨i, hi⟩ := hi
  have hdat : (Obj.putName name hsh (.str name t) v { cls := c, dict := d, data := .dict es ep, slots := sl }).data = .dict (es.modify i fun e => { e with val := v }) ep := by
    simp only [Obj.putName_eq, Obj.putNameByArray, hi]
  refine ⟨⟨_, ep, hdat, k.modify _ _, fun x => ?_, ?_⟩, Obj.isFreed_of_dict hdat⟩
  · have q : nsFind (es.modify i fun e => { e with val := v }) x = if x = name then some v else nsFind es x := findBy_modify (fun n v => v.isStr n) Value.isStr_inj es name x v i hi
    rw [q, repl_lookup name (er v) x m hs]
    by_cases hx : x = name
    · rw [if_pos hx, if_pos hx]; rfl
    · rw [if_neg hx, if_neg hx]; exact f x
  · rw [Array.size_modify, repl_length]; exact z
end
section
variable {prog : Program} {w : World} {A : Around} {E : Value → Shared → Prop} {C : Cx} {σ σ' : Led} {s : Shared} {name : Str} {v : Value} {m : List (Str × Value)} {x d Cc : Addr}
theorem setB {Q : Unit → Shared → Prop} (S : Sat C σ s) (hm : (x, .ins Cc d) ∈ σ) (U : Upd d (.idc m) (.idc (repl name (er v) m)) σ σ') (hi : (m.lookup name).isSome = true) (hs : findIn C.K (.ref Cc) "__setattr__" = some (some (.builtin "object.__setattr__"))) (hp : plainOver C.K Cc = true)
    (ht : takerIn C.K Cc name = some none) (hh : hasDictIn C.K Cc = true) (hz : m.length < 1000) (h : ∀ s', Sat C σ' s' → Q () s') : wpAny (model prog w) A (setAttr (.ref x) name v) Q E s := by
  obtain ⟨od, es, ep, I, ho, e, k, ff, z⟩ := S.inst hm U.mem
  refine set_plain S.kin I hs ?_
  have S1 := S.tok (s.toks + 1)
  refine osa_open (s := { s with toks := s.toks + 1 }) S1.kin I hp ht fun b => ?_
  obtain ⟨cd, hc, hd'⟩ := any_some hh
  have X := S1.kin
  refine wpAny_bind (wpAny_pure (wpAny_bind (wpAny_bind (wpAny_loadPart I.at_ (wpAny_bind ((looks_clsIn X hc).here ?_))))))
  rw [hd']
  refine wpAny_pure (a := some d) (wpAny_bind (wpAny_pure (wpAny_bind ?_)))
  unfold nsSet
  refine wpAny_bind (wpAny_bind (wpAny_askSetting (wpAny_pure (wpAny_bind (wpAny_mkText (wpAny_bind (wpAny_loadPart ho ?_)))))))
  rw [e]
  dsimp only
  have c : (!es.any (·.key.isStr name) && es.any (·.refKey)) = false := by
    have : es.any (·.refKey) = false := by
      rw [Array.any_eq_false']; intro e he; obtain ⟨n, t, h⟩ := k e he; simp [DictEntry.refKey, h]
    rw [this, Bool.and_false]
  rw [aRefKeyMayBeTheName_at, c]
  have P : ∀ hsh tk, _ := fun hsh tk => putName_in (name := name) (v := v) (o := od) (m := m) ⟨es, ep, e, k, ff, z⟩ hi hsh tk
  refine wpAny_updatePart ho ?_
  refine wpAny_bind (wpAny_lookBehind (Heap.get?_update_self _ ho (P _ _).2) ?_ ?_)
  · obtain ⟨⟨es', ep', e', _, _, z'⟩, _⟩ := P (if name.cps.isEmpty then 0 else reduceHash ((model prog w).w.params.strHash name.cps)) (s.toks + 1)
    rw [e']
    exact pastItsLine_dict (by rw [sizeLine_eq]; rw [repl_length] at z'; wtm_at "om")
  · refine wpAny_pure ?_
    exact h _ (S.upd U ho (P _ _).1 (P _ _).2 _)
end
open Builtin.Str in
section
variable {prog : Program} {w : World} {A : Around} {E : Value → Shared → Prop} {C : Cx} {σ σ' τ : Led} {s : Shared} {it l a b : Addr} {n : Nat} {Q : Value → Shared → Prop} {env : Env} {x y z : Str} {t u v : Tok}
theorem replaceV (S : Sat C σ s) (hu : u ≠ 0) (hv : v ≠ 0) (huv : u ≠ v) (hyz : (y == z) = false) (hb : x.length + (x.length + 1) * z.length ≤ 16777216)
    (hq : ∀ t s', Sat C σ s' → Q (.str (Txt.replace x y z) t) s') : wpAny (model prog w) A (call (.builtin "str.replace") [.str x t, .str y u, .str z v]) Q E s := by
  have hl : tooLong (x.length + (occurrences x y 0 x.length (x.length + 1)).length * z.length) = false := by
    have h1 := StrLaws.occ_length_le x y 0 x.length (x.length + 1)
    have h2 : (occurrences x y 0 x.length (x.length + 1)).length * z.length ≤ (x.length + 1) * z.length := Nat.mul_le_mul_right _ h1
    unfold tooLong
    rw [decide_eq_false_iff_not, sizeLine_eq]; wtm_at "om"
  refine call_gives PySem.F.slot_str_replace (typeIs_str _ _ _) PySem.F.entry_str_replace (PySem.F.args_str_replace_3 _ _ _)
    (gives_str_replace x y z t u v fun _ => ⟨by simp [hu, hv], by simp [huv], hyz, hl⟩) ?_
  have hq' : ∀ t s', Sat C σ s' → Q (.str (if ((occurrences x y 0 x.length (x.length + 1)).isEmpty || (y.length == 0 && z.length == 0)) = true then x
    else glued z (partsBetween x (occurrences x y 0 x.length (x.length + 1)) y.length)) t) s' := hq
  cases hc : ((occurrences x y 0 x.length (x.length + 1)).isEmpty || (y.length == 0 && z.length == 0)) with
  | false =>
    rw [hc] at hq'
    simp only [Bool.false_eq_true, if_false] at hq' ⊢
    exact ⟨fits_replaced y hb, hq' _ _ (S.tok _)⟩
  | true =>
    rw [hc] at hq'
    simp only [if_true] at hq' ⊢
    exact hq' t s S
theorem replaceS {k₁ k₂ : Nat} {p₁ p₂ pos : Pos} (S : Sat C σ s) (hyz : (y == z) = false) (hb : x.length + (x.length + 1) * z.length ≤ 16777216)
    (hq : ∀ t s', Sat C σ s' → Q (.str (Txt.replace x y z) t) s') :
    wpAny (model prog w) A (callWith pos (.builtin "str.replace") [.str x t] (backTo pos (starEach [.Constant (.str y) k₁ p₁, .Constant (.str z) k₂ p₂] env)) []) Q E s := by
  refine callWith_method1 (wpAny_items_cons (wpAny_Constant_str (wpAny_items_cons (wpAny_Constant_str (wpAny_items_nil ?_)))))
  have h0 := S.tk
  exact replaceV ((S.tok (s.toks + 1)).tok (s.toks + 1 + 1)) (by show s.toks ≠ 0; wtm_at "om") (by show s.toks + 1 ≠ 0; wtm_at "om") (by show s.toks ≠ s.toks + 1; wtm_at "om") hyz hb hq
theorem strsOf {its : Array Value} {xs : List Str} (he : its.toList.map er = txts xs) : ∃ ys : List (Str × Tok), its = (strValues ys).toArray ∧ ys.map (·.1) = xs := by
  have : ∀ (vs : List Value) (xs : List Str), vs.map er = txts xs → ∃ ys : List (Str × Tok), vs = strValues ys ∧ ys.map (·.1) = xs := by
    intro vs
    induction vs with
    | nil => intro xs e; cases xs with | nil => exact ⟨[], rfl, rfl⟩ | cons _ _ => cases e
    | cons v vs ih =>
      intro xs e
      cases xs with
      | nil => cases e
      | cons y ys =>
        injection e with e1 e2
        obtain ⟨u, rfl⟩ := er_str e1
        obtain ⟨zs, rfl, rfl⟩ := ih ys e2
        exact ⟨(y, u) :: zs, rfl, rfl⟩
  obtain ⟨ys, e1, e2⟩ := this its.toList xs he
  exact ⟨ys, by rw [← e1], e2⟩
theorem joinFits {x : Str} {ys : List (Str × Tok)} (h1 : (ys.map (·.1)).foldl (fun n p => n + p.length + x.length) 0 ≤ 1000000) : tooLong ((ys.map (·.1)).toArray.foldl (· + ·.length + x.length) 0) = false := by
  unfold tooLong
  rw [decide_eq_false_iff_not, sizeLine_eq, List.foldl_toArray]
  wtm_at "om"
theorem joinPost {x : Str} {ys : List (Str × Tok)} (S : Sat C σ s) (h2 : (glued x (ys.map (·.1))).length ≤ 1000000) (h : ∀ t s', Sat C σ s' → Q (.str (glued x (ys.map (·.1))) t) s') :
    (joinMade x ys).post (fun v s' => wants Q E (.ok (.ret v)) s') s := by
  match ys, h2, h with
  | [], h2, h => exact ⟨by rw [sizeLine_eq]; exact Nat.le_trans h2 (by wtm_at "om"), h _ _ (S.tok _)⟩
  | [p], _, h => exact h p.2 _ S
  | p :: q :: r, h2, h => exact ⟨by rw [sizeLine_eq]; exact Nat.le_trans h2 (by wtm_at "om"), h _ _ (S.tok _)⟩
theorem joinS {l : Addr} {xs : List Str} (S : Sat C σ s) (hl : (l, .lst (txts xs)) ∈ σ) (h1 : xs.foldl (fun n p => n + p.length + x.length) 0 ≤ 1000000) (h2 : (glued x xs).length ≤ 1000000) (h : ∀ t s', Sat C σ s' → Q (.str (glued x xs) t) s') :
    wpAny (model prog w) A (call (.builtin "str.join") [.str x t, .ref l]) Q E s := by
  obtain ⟨its, hL, he⟩ := S.isList hl
  obtain ⟨ys, rfl, rfl⟩ := strsOf he
  exact call_meets PySem.F.slot_str_join (typeIs_str _ _ _) PySem.F.entry_str_join (PySem.F.args_str_join_2 _ _) (meets_str_join_list x t l ys (joinFits h1)) ⟨hL, joinPost S h2 h⟩
theorem str_of_txts {its : Array Value} {xs : List Str} (he : its.toList.map er = txts xs) (j : Nat) (hj : j < its.size) : ∃ t, its[j] = .str (xs.getD j Str.empty) t := by
  have h1 : (its.toList.map er)[j]? = some (er its[j]) := by rw [List.getElem?_map, Array.getElem?_toList, Array.getElem?_eq_getElem hj]; rfl
  rw [he, List.getElem?_map] at h1
  obtain ⟨y, hy, e⟩ := Option.map_eq_some_iff.mp h1
  obtain ⟨t, ht⟩ := er_str e.symm
  exact ⟨t, by rw [ht, List.getD_eq_getElem?_getD, hy]; rfl⟩
theorem neLen {xs ys : List Value} (S : Sat C σ s) (hl : (l, .lst xs) ∈ σ) (hb : (b, .lst ys) ∈ σ) (hn : xs.length ≠ ys.length) (hu : A.units < cLine) (h : Q (.bool true) s) : wpAny (model prog w) A (compareOp .NotEq (.ref l) (.ref b)) Q E s := by
  obtain ⟨its, hL, he⟩ := S.isList hl
  obtain ⟨its2, hL2, he2⟩ := S.isList hb
  exact SeqAt.RcNeAt.lists_lengths hL hL2 (by rw [lst_len he, lst_len he2]; simpa using hn) hu prog w E Q h
theorem neTxt {xs ys : List Str} (S : Sat C σ s) (hl : (l, .lst (txts xs)) ∈ σ) (hb : (b, .lst (txts ys)) ∈ σ) (hu : A.units < cLine) (h : Q (.bool (decide (xs ≠ ys))) s) : wpAny (model prog w) A (compareOp .NotEq (.ref l) (.ref b)) Q E s := by
  obtain ⟨its, hL, he⟩ := S.isList hl
  obtain ⟨its2, hL2, he2⟩ := S.isList hb
  have n1 := lst_len he
  have n2 := lst_len he2
  rw [List.length_map] at n1 n2
  by_cases hn : xs.length = ys.length
  · refine SeqAt.RcNeAt.lists (e := fun j => (xs.getD j Str.empty).cps.toList == (ys.getD j Str.empty).cps.toList) hL hL2 (by wtm_at "om") hu (fun j h1 h2 => ?_) prog w E Q ?_
    · obtain ⟨t, e⟩ := str_of_txts he j h1
      obtain ⟨t', e'⟩ := str_of_txts he2 j h2
      rw [e, e']
      exact MeetsSeq.EqGives.at (SeqRoads2.EqGives.str _ _ t t') _ _
    · have : (!(List.range its.size).all fun j => (xs.getD j Str.empty).cps.toList == (ys.getD j Str.empty).cps.toList) = decide (xs ≠ ys) := by
        rw [n1]
        by_cases e : xs = ys
        · subst e; simp
        · rw [decide_eq_true e, Bool.not_eq_true', List.all_eq_false]
          apply Classical.byContradiction
          intro hno
          refine e (List.ext_getElem hn fun j h1 h2 => ?_)
          apply Classical.byContradiction
          intro hne
          refine hno ⟨j, List.mem_range.mpr h1, ?_⟩
          rw [List.getD_eq_getElem?_getD, List.getD_eq_getElem?_getD, List.getElem?_eq_getElem h1, List.getElem?_eq_getElem h2]
          intro hc
          refine hne ?_
          have hc := beq_iff_eq.mp hc
          cases hx : xs[j]; cases hy : ys[j]
          simp only [Option.getD_some, hx, hy] at hc
          rw [Array.toList_inj.mp hc]
      rw [this]; exact h
  · have : decide (xs ≠ ys) = true := decide_eq_true fun e => hn (by rw [e])
    rw [this] at h
    exact neLen S hl hb (by rw [List.length_map, List.length_map]; exact hn) hu h
theorem listItems {K : Type} [DecidableEq K] {knd : KeyKind prog w K} {kvs : List (K × Value)} {ep : Nat} {r d : Addr} (S : Sat C σ s) (hh : A.handled = none) (hv : s.heap.IsItemsView r d) (hm : s.heap.DictAt knd d kvs ep) (hn : kvs.length ≤ 1000)
    (h : ∀ D s', Sat C ((D, .prd fun _ => True) :: σ) s' → Q (.ref D) s') : wpAny (model prog w) A (call (.type "list") [.ref r]) Q E s := by
  refine withTk (kdx_call hh hv hm (by rw [sizeLine_eq]; wtm_at "om") fun h' tk acc c as k ho _ _ _ htk => ?_) S.tk
  exact h _ _ (S.grow (p := .prd fun _ => True) k (Nat.le_refl _) ho trivial tk htk)
theorem evD0 {env : Env} {pos : Pos} (S : Sat C σ s) (h : ∀ D s', Sat C ((D, .raw emptyDict) :: σ) s' → Q (.ref D) s') : wpAny (model prog w) A (eval (.Dict [] [] pos) env) Q E s := by
  rw [eval_Dict_empty]
  refine wpAny_bind (wpAny_standAt ?_)
  exact wpAny_newObj_type (h _ _ (S.push (p := .raw emptyDict) rfl rfl s.toks))
end
noncomputable def bndO (id : String) (self : Value) : Obj := { cls := .type "builtin_function_or_method", data := .fields #[.builtin id, self] }
section
variable {prog : Program} {w : World} {A : Around} {E : Value → Shared → Prop} {C : Cx} {σ σ' τ : Led} {s : Shared} {a l : Addr} {Q : Value → Shared → Prop} {xs : List Value}
theorem callBound {id : String} {self : Value} {B : Builtin} {args : List Value} {S : PySem.Spec} (ho : s.heap.get? a = some (bndO id self)) (hq : plainId id = true) (hb : entryFor table id = some B)
    (hc : ∀ (A : Around) (Q : Unit → Shared → Prop) (E : Value → Shared → Prop), Q () s → wpAny (model prog w) A (checkBoundCall id ⟨self :: args, []⟩) Q E s) (g : Meets (B ⟨self :: args, []⟩) S) (h : S A (wants Q E) s) :
    wpAny (model prog w) A (call (.ref a) args) Q E s := by
  refine wpAny_call (codeAny_of_tree ?_)
  show wpAny _ A.in1 (callAny (.ref a) ⟨args, []⟩) _ _ s
  simp only [callAny]
  refine wpAny_bind (wpAny_load ho ?_)
  simp only [bndO, show (Value.type "builtin_function_or_method" == Value.type "method" || Value.type "builtin_function_or_method" == Value.type "builtin_function_or_method" || Value.type "builtin_function_or_method" == Value.type "method-wrapper") = true by decide, if_true]
  show wpAny _ _ (if (Value.type "builtin_function_or_method" != Value.type "method") = true then _ else _) _ _ s
  rw [if_pos (by decide)]
  refine wpAny_bind (hc _ _ _ ?_)
  refine wpAny_bind (wpAny_pure (wpAny_pure ?_))
  refine ⟨plainId_quiet hq _, codeAny_builtin hb ?_⟩
  rw [Around.under_plainId hq]
  exact g prog w A (wants Q E) s h
theorem check_join {x : Str} {t : Tok} {v : Value} {Q : Unit → Shared → Prop} (h : Q () s) : wpAny (model prog w) A (checkBoundCall "str.join" ⟨[.str x t, v], []⟩) Q E s := by
  refine wpAny_of_eq (a := ()) ?_ h
  first | kernel_rfl | rfl
theorem check_append {v : Value} {its : Array Value} {n : Nat} {Q : Unit → Shared → Prop} (ho : s.heap.get? l = some { cls := .type "list", data := .seq its n }) (h : Q () s) : wpAny (model prog w) A (checkBoundCall "list.append" ⟨[.ref l, v], []⟩) Q E s := by
  have hT : s.TypeIs (.ref l) "list" := ⟨_, ho, rfl⟩
  have hsub : isSubtype (.type "list") (.type "module") = pure false := by rw [isSubtype_type]; kernel_rfl
  have hs : Manifest.signature? "list.append" = some ⟨.oneArg, "list.append", "append", .self, [⟨"object", .posOnly, true⟩]⟩ := by kernel_rfl
  have hk : builtinKind "list.append" = some .method := by decide +kernel
  unfold checkBoundCall
  rw [hs, hk]
  dsimp only
  rw [if_neg (by decide)]
  refine wpAny_bind (wpAny_isInstance hT hsub ?_)
  rw [if_neg (by decide +kernel)]
  refine wpAny_bind ?_
  unfold isType
  refine wpAny_bind (wpAny_loadPart ho (wpAny_pure ?_))
  dsimp only
  rw [if_neg Bool.false_ne_true]
  refine wpAny_bind (wpAny_typeOf hT ?_)
  dsimp only
  exact wpAny_of_eq (by kernel_rfl) h
theorem callAppB {v : Value} (S : Sat C σ s) (ha : (a, .raw (bndO "list.append" (.ref l))) ∈ σ) (U : Upd l (.lst xs) (.lst (xs ++ [er v])) σ σ') (hz : xs.length ≤ 1000000) (h : ∀ s', Sat C σ' s' → Q .none s') : wpAny (model prog w) A (call (.ref a) [v]) Q E s := by
  obtain ⟨o, ho, hp⟩ := S.get ha
  have hp : o = _ := hp
  subst hp
  obtain ⟨its, n, hol, he⟩ := S.lst U.mem
  refine wpAny_call (codeAny_of_tree ?_)
  show wpAny _ A.in1 (callAny (.ref a) ⟨[v], []⟩) _ _ s
  simp only [callAny]
  refine wpAny_bind (wpAny_load ho ?_)
  simp only [bndO, show (Value.type "builtin_function_or_method" == Value.type "method" || Value.type "builtin_function_or_method" == Value.type "builtin_function_or_method" || Value.type "builtin_function_or_method" == Value.type "method-wrapper") = true by decide, if_true]
  show wpAny _ _ (if (Value.type "builtin_function_or_method" != Value.type "method") = true then _ else _) _ _ s
  rw [if_pos (by decide)]
  refine wpAny_bind (check_append hol ?_)
  refine wpAny_bind (wpAny_pure (wpAny_pure ?_))
  refine ⟨plainId_quiet (by decide +kernel) _, codeAny_builtin entry_list_append ?_⟩
  rw [Around.under_plainId (by decide +kernel)]
  show wpAny _ _ (updateSeq l (·.push v) >>= fun _ => ret .none) _ _ s
  refine wpAny_bind (wpAny_updateSeq (hz := by have := lst_len he; rw [sizeLine_eq]; wtm_at "om") (_hz' := by have := lst_len he; rw [sizeLine_eq, Array.size_push]; wtm_at "om") hol rfl (wpAny_pure (h _ (S.upd U hol ?_ ?_ s.toks))))
  · rw [mapSeq_push]
    refine lst_of ?_
    rw [Array.toList_push, List.map_append, he]; rfl
  · rw [mapSeq_push]; rfl
theorem callJoinB {x : Str} {t : Tok} {ys : List Str} (S : Sat C σ s) (ho : s.heap.get? a = some (bndO "str.join" (.str x t))) (hl : (l, .lst (txts ys)) ∈ σ) (h1 : ys.foldl (fun n p => n + p.length + x.length) 0 ≤ 1000000) (h2 : (Builtin.Str.glued x ys).length ≤ 1000000)
    (h : ∀ t s', Sat C σ s' → Q (.str (Builtin.Str.glued x ys) t) s') : wpAny (model prog w) A (call (.ref a) [.ref l]) Q E s := by
  obtain ⟨its, hL, he⟩ := S.isList hl
  obtain ⟨zs, rfl, rfl⟩ := strsOf he
  exact callBound ho (by decide +kernel) PySem.F.entry_str_join (fun A Q E h => check_join h) (meets_str_join_list x t l zs (joinFits h1)) ⟨hL, joinPost S h2 h⟩
end
noncomputable def sliO : Obj := { cls := .type "slice", data := .fields #[.none, .none, .none] }
section
variable {prog : Program} {w : World} {A : Around} {E : Value → Shared → Prop} {C : Cx} {σ σ' τ : Led} {s : Shared} {a l sl : Addr} {xs : List Value} {env : Env}
theorem delItemAll {Q : Unit → Shared → Prop} (S : Sat C σ s) (hs : (sl, .raw sliO) ∈ σ) (U : Upd l (.lst xs) (.lst []) σ σ') (hz : xs.length ≤ 1000000) (h : ∀ s', Sat C σ' s' → Q () s') : wpAny (model prog w) A (delItem (.ref l) (.ref sl)) Q E s := by
  obtain ⟨its, n, ho, he⟩ := S.lst U.mem
  obtain ⟨os, hos, hp⟩ := S.get hs
  have hp : os = _ := hp
  subst hp
  have hT : s.TypeIs (.ref l) "list" := ⟨_, ho, rfl⟩
  have hTs : s.TypeIs (.ref sl) "slice" := ⟨_, hos, rfl⟩
  have hsz := lst_len he
  refine wpAny_delItem_slot hT (by decide) PySem.F.slot_list_delitem (wpAny_call_entry PySem.F.slot_list_delitem hT PySem.F.entry_list_delitem ?_ (PySem.F.args_list_delitem_2 _ _))
  show wpAny _ _ (Builtin.List.listSubscript? (.ref sl) >>= _) _ _ s
  refine wpAny_bind ?_
  unfold Builtin.List.listSubscript?
  refine wpAny_bind (wpAny_specialOf hTs slice_no_index ?_)
  simp only [Option.isNone_none, if_true]
  refine wpAny_pure ?_
  show wpAny _ _ (typeOf (.ref sl) >>= _) _ _ s
  refine wpAny_bind (wpAny_typeOf hTs ?_)
  rw [if_neg (by decide)]
  rw [listSliceParts_eq]
  refine wpAny_bind (wpAny_bind (wpAny_field hos rfl (x := .none) rfl (wpAny_bind (wpAny_listPart .none ?_))))
  rw [if_neg (show ¬ ((rawPart none == rawInt 0) = true) from Bool.false_ne_true)]
  refine wpAny_bind (wpAny_field hos rfl (x := .none) rfl (wpAny_bind (wpAny_listPart .none ?_)))
  refine wpAny_bind (wpAny_field hos rfl (x := .none) rfl (wpAny_bind (wpAny_listPart .none (wpAny_pure ?_))))
  refine wpAny_bind (m := Builtin.List.listItems (.ref l)) ?_
  unfold Builtin.List.listItems
  refine wpAny_bind (wpAny_seqItems ho rfl (wpAny_pure ?_))
  refine wpAny_bind (wpAny_of_eq (sliceIndices_raw none none none its.size (fun e => nomatch e)) ?_)
  refine wpAny_bind (wpAny_rule ?_)
  show wpAny _ _ (updateSeq l _ >>= _) _ _ s
  have key : ∀ (x : Value) (k : Nat) (P : Prop) [Decidable P], k < its.size → (P ↔ (if (1 : Int) > 0 then decide ((0 : Int) ≤ k) && decide ((k : Int) < its.size) && (((k : Int) - 0) % 1 == 0) else false) = true) → (if P then (none : Option Value) else some x) = none := by
    intro x k P _ hk hP
    refine if_pos (hP.mpr ?_)
    rw [if_pos (by decide)]
    simp; wtm_at "om"
  refine wpAny_bind (wpAny_updateSeq (hz := by rw [sizeLine_eq]; wtm_at "om") (_hz' := ?_) ho rfl ?_)
  · refine wpAny_bind (wpAny_letGo (wpAny_pure ⟨_, rfl, h _ (S.upd U ho ?_ rfl s.toks)⟩))
    obtain ⟨k, hk⟩ := mapSeq_at (its := its) (n := n) (fun xs => (List.filterMap _ xs.toList.zipIdx).toArray)
    rw [hk]
    refine lst_of ?_
    rw [List.map_eq_nil_iff]
    show List.filterMap _ its.toList.zipIdx = []
    rw [List.filterMap_eq_nil_iff]
    rintro ⟨x, k⟩ hx
    have hk : k < its.size := by have := (List.mem_zipIdx' hx).1; simpa using this
    exact key x k _ hk Iff.rfl
  · show (List.filterMap _ its.toList.zipIdx).toArray.size ≤ _
    rw [List.size_toArray, sizeLine_eq]
    refine Nat.le_trans (List.length_filterMap_le _ _) ?_
    rw [List.length_zipIdx, Array.length_toList]; wtm_at "om"
theorem delAll {value : Expr} {p pos : Pos} {Q : Unit → Shared → Prop} (h : wpAny (model prog w) A (eval value env) (fun v s₁ => ∃ l xs σ σ', v = .ref l ∧ Sat C σ s₁ ∧ Upd l (.lst xs) (.lst []) σ σ' ∧ xs.length ≤ 1000000 ∧ ∀ s', Sat C σ' s' → Q () s') E s) :
    wpAny (model prog w) A (deleteEach [.Subscript value (.Slice none none none p) pos] env) Q E s := by
  refine wpAny_deleteEach_cons ?_
  rw [arm_delete_Subscript]
  refine wpAny_bind (wpAny_mono h (fun v s₁ hv => ?_) fun _ _ e => e)
  obtain ⟨l, xs, σ, σ', rfl, S, U, hz, h⟩ := hv
  refine wpAny_bind (wpAny_holding (wpAny_Slice ?_))
  rw [evalPart_none]
  refine wpAny_pure (wpAny_pure (wpAny_pure ?_))
  refine wpAny_bind (wpAny_standAt ?_)
  have S₁ := S.push (p := .raw sliO) (o := sliO) rfl rfl s₁.toks
  refine wpAny_bind (wpAny_holding (delItemAll S₁ (.head _) (.tail U) hz fun s' S' => ?_))
  refine wpAny_release ?_
  exact wpAny_deleteEach_nil (h _ (S'.sub (List.sublist_cons_self _ _)))
end
def ids (s : String) : Array Lean.Ident := (s.splitOn " ").toArray.map fun x => Lean.mkIdent x.toName
noncomputable def keptO (p : Addr × Obj) : Bool := match p.2.cls with | .none => false | _ => true
noncomputable abbrev KK (P : Params) : Frag := heapK P
theorem lookup_KK {P : Params} {a : Addr} {o : Obj} (h : (heapK P).lookup a = some o) (_ : keptO (a, o) = true) : (KK P).lookup a = some o := h
local macro_rules | `(tactic| wtm_at "r_mem") => `(tactic| first | assumption | (repeat (first | exact List.Mem.head _ | assumption | refine List.Mem.tail _ ?_)))
local macro_rules | `(tactic| wtm_at "r_mf") => `(tactic| first | assumption | ((repeat (first | exact List.Mem.head _ | assumption | refine List.Mem.tail _ ?_)) <;> fail))
local macro_rules | `(tactic| wtm_at "r_upd") => `(tactic| (repeat (first | exact Upd.head | assumption | apply Upd.tail)))
local macro_rules | `(tactic| wtm_at "r_sat") => `(tactic| first | assumption | exact Sat.tok (by assumption) _)
local macro_rules | `(tactic| wtm_at "r_k") => `(tactic| first | kernel_rfl! | ((rw [(by assumption : Cx.K _ = KK _)]); kernel_rfl!))
local macro_rules | `(tactic| wtm_at "r_sub") => `(tactic| (repeat (first | exact List.Sublist.refl _ | apply List.Sublist.cons_cons | apply List.Sublist.cons)))
local macro_rules | `(tactic| wtm_at "r_le") => `(tactic| first | exact Nat.le_of_ble_eq_true rfl | (simp only [List.length_append, List.length_map, List.length_cons, List.length_nil] at *; wtm_at "om"))
theorem gEntry {P : Params} : nsIn (KK P) mainGlobals (Str.ofString "Entry") = some (some (.ref 76)) := by kernel_rfl
theorem gmerge_entries {P : Params} : nsIn (KK P) mainGlobals (Str.ofString "merge_entries") = some (some (.ref 87)) := by kernel_rfl
theorem g_namespace_map {P : Params} : nsIn (KK P) mainGlobals (Str.ofString "_namespace_map") = some (some (.ref 93)) := by kernel_rfl
theorem gC14NWriterTarget {P : Params} : nsIn (KK P) mainGlobals (Str.ofString "C14NWriterTarget") = some (some (.ref 199)) := by kernel_rfl
theorem g_escape_cdata_c14n {P : Params} : nsIn (KK P) mainGlobals (Str.ofString "_escape_cdata_c14n") = some (some (.ref 210)) := by kernel_rfl
theorem g_escape_attrib_c14n {P : Params} : nsIn (KK P) mainGlobals (Str.ofString "_escape_attrib_c14n") = some (some (.ref 217)) := by kernel_rfl
theorem g_law_record {P : Params} : nsIn (KK P) mainGlobals (Str.ofString "_law_record") = some (some (.ref 224)) := by kernel_rfl
theorem g_law_spelled {P : Params} : nsIn (KK P) mainGlobals (Str.ofString "_law_spelled") = some (some (.ref 229)) := by kernel_rfl
theorem g_law_words {P : Params} : nsIn (KK P) mainGlobals (Str.ofString "_law_words") = some (some (.ref 234)) := by kernel_rfl
theorem g_law_tell {P : Params} : nsIn (KK P) mainGlobals (Str.ofString "_law_tell") = some (some (.ref 241)) := by kernel_rfl
theorem g_law_page {P : Params} : nsIn (KK P) mainGlobals (Str.ofString "_law_page") = some (some (.ref 246)) := by kernel_rfl
theorem bset : bootBuiltins (Str.ofString "set") = some (.type "set") := by kernel_rfl
theorem blist : bootBuiltins (Str.ofString "list") = some (.type "list") := by kernel_rfl
theorem blen : bootBuiltins (Str.ofString "len") = some (.builtin "len") := by kernel_rfl
theorem bsum : bootBuiltins (Str.ofString "sum") = some (.builtin "sum") := by kernel_rfl
theorem brange : bootBuiltins (Str.ofString "range") = some (.type "range") := by kernel_rfl
theorem benumerate : bootBuiltins (Str.ofString "enumerate") = some (.type "enumerate") := by kernel_rfl
theorem bfilter : bootBuiltins (Str.ofString "filter") = some (.type "filter") := by kernel_rfl
theorem bsorted : bootBuiltins (Str.ofString "sorted") = some (.builtin "sorted") := by kernel_rfl
theorem bmap : bootBuiltins (Str.ofString "map") = some (.type "map") := by kernel_rfl
local macro_rules | `(tactic| wtm_at "r_glob") => `(tactic| ((rw [(by assumption : Cx.K _ = KK _)]); first | with_reducible exact gEntry | with_reducible exact gmerge_entries | with_reducible exact g_namespace_map | with_reducible exact gC14NWriterTarget | with_reducible exact g_escape_cdata_c14n | with_reducible exact g_escape_attrib_c14n | with_reducible exact g_law_record | with_reducible exact g_law_spelled | with_reducible exact g_law_words | with_reducible exact g_law_tell | with_reducible exact g_law_page))
local macro_rules | `(tactic| wtm_at "r_bui") => `(tactic| first | with_reducible exact bset | with_reducible exact blist | with_reducible exact blen | with_reducible exact bsum | with_reducible exact brange | with_reducible exact benumerate | with_reducible exact bfilter | with_reducible exact bsorted | with_reducible exact bmap)
noncomputable def noneNone : Option (Option Value) → Bool | some none => true | _ => false
noncomputable def fldOk (K : Frag) (c : Addr) (n : Str) : Bool := plainGet K c n && noneNone (findIn K (.ref c) n) && noneNone (takerIn K c n)
noncomputable def clsOk (K : Frag) (c : Addr) : Bool := hasDictIn K c && plainOver K c && (match findIn K (.ref c) "__setattr__" with | some (some (.builtin x)) => x == "object.__setattr__" | _ => false)
noncomputable def fW : List Str := ["_ignored_depth", "_root_done", "_root_seen", "_pending_start", "_preserve_space", "_prefix_map", "_ns_stack", "_declared_ns_stack", "_find_qname_aware_attrs", "_qname_aware_tags", "_rewrite_prefixes", "_exclude_tags", "_exclude_attrs", "_strip_text", "_with_comments", "_data", "_write"]
noncomputable def fE : List Str := ["useragents", "rulelines", "delay", "req_rate"]
theorem okW {P : Params} : (clsOk (KK P) 199 && fW.all (fldOk (KK P) 199)) = true := by kernel_rfl
theorem okE {P : Params} : (clsOk (KK P) 76 && fE.all (fldOk (KK P) 76)) = true := by kernel_rfl
inductive Cls (K : Frag) (c : Addr) (n : Str) : Prop
  | mk (h : hasDictIn K c = true) (o : plainOver K c = true) (s : findIn K (.ref c) "__setattr__" = some (some (.builtin "object.__setattr__"))) (g : plainGet K c n = true) (f : findIn K (.ref c) n = some none) (t : takerIn K c n = some none)
theorem noneNone_of {x : Option (Option Value)} (h : noneNone x = true) : x = some none := by
  unfold noneNone at h
  split at h
  · rfl
  · cases h
theorem cls_of {K : Frag} {c : Addr} {fs : List Str} {n : Str} (h : (clsOk K c && fs.all (fldOk K c)) = true) (hn : fs.contains n = true) : Cls K c n := by
  rw [Bool.and_eq_true] at h
  obtain ⟨h1, h2⟩ := h
  have hn' : n ∈ fs := by simpa using hn
  have h3 := List.all_eq_true.mp h2 n hn'
  unfold fldOk at h3
  unfold clsOk at h1
  simp only [Bool.and_eq_true] at h1 h3
  refine ⟨h1.1.1, h1.1.2, ?_, h3.1.1, noneNone_of h3.1.2, noneNone_of h3.2⟩
  have := h1.2
  split at this
  · rename_i x e; rw [e, beq_iff_eq.mp this]
  · cases this
theorem clsW {K : Frag} {P : Params} {n : Str} (hK : K = KK P) (hn : fW.contains n = true) : Cls K 199 n := by subst hK; exact cls_of okW hn
theorem clsE {K : Frag} {P : Params} {n : Str} (hK : K = KK P) (hn : fE.contains n = true) : Cls K 76 n := by subst hK; exact cls_of okE hn
noncomputable def keepFs : List Addr := [76, 199, 52, 66, 87, 116, 124, 139, 146, 155, 169, 175, 182, 210, 217, 224, 229, 234, 241, 246]
theorem okKeep {P : Params} : (keepFs.all fun a => keepIn (KK P) (.ref a)) = true := by kernel_rfl
theorem keep_of {K : Frag} {P : Params} {a : Addr} (hK : K = KK P) (hn : keepFs.contains a = true) : keepIn K (.ref a) = true := by
  subst hK
  exact List.all_eq_true.mp okKeep a (by simpa using hn)
theorem lk_head {n : Str} {v : Value} {m : List (Str × Value)} : List.lookup n ((n, v) :: m) = some v := by rw [List.lookup_cons]; simp
theorem lk_tail {n k : Str} {v : Value} {p : Option Value} {m : List (Str × Value)} (h : (n == k) = false) (h2 : List.lookup n m = p) : List.lookup n ((k, v) :: m) = p := by rw [List.lookup_cons, h]; exact h2
theorem lk_nil {n : Str} : List.lookup n ([] : List (Str × Value)) = none := rfl
local macro_rules | `(tactic| wtm_at "r_lk") => `(tactic| (repeat (first | with_reducible exact lk_head | with_reducible assumption | with_reducible exact lk_nil | (with_reducible refine lk_tail (by kernel_rfl!) ?_))))
section
variable {prog : Program} {w : World} {A : Around} {E : Value → Shared → Prop} {C : Cx} {σ σ' : Led} {s : Shared} {name : Str} {pv v : Value} {m : List (Str × Value)} {x d Cc : Addr}
theorem getC {Q : Value → Shared → Prop} {expr : Bool} (S : Sat C σ s) (hm : (x, .ins Cc d) ∈ σ) (hd : (d, .idc m) ∈ σ) (hc : Cls C.K Cc name) (hx : m.lookup name = some pv) (hv : handedIn pv = true) (h : ∀ s', Sat C σ s' → Vs pv (fun v => Q v s')) :
    wpAny (model prog w) A (getAttr (.ref x) name expr) Q E s := let ⟨h1, _, _, h4, h5, _⟩ := hc; getA S hm hd hx h4 h1 h5 hv h
theorem setC {Q : Unit → Shared → Prop} (S : Sat C σ s) (hm : (x, .ins Cc d) ∈ σ) (U : Upd d (.idc m) (.idc ((name, er v) :: m)) σ σ') (hc : Cls C.K Cc name) (hz : m.length < 1000) (h : ∀ s', Sat C σ' s' → Q () s') :
    wpAny (model prog w) A (setAttr (.ref x) name v) Q E s := let ⟨h1, h2, h3, _, _, h6⟩ := hc; setA S hm U h3 h2 h6 h1 hz h
theorem setD {Q : Unit → Shared → Prop} (S : Sat C σ s) (hm : (x, .ins Cc d) ∈ σ) (U : Upd d (.idc m) (.idc (repl name (er v) m)) σ σ') (hc : Cls C.K Cc name) (hi : (m.lookup name).isSome = true) (hz : m.length < 1000) (h : ∀ s', Sat C σ' s' → Q () s') :
    wpAny (model prog w) A (setAttr (.ref x) name v) Q E s := let ⟨h1, h2, h3, _, _, h6⟩ := hc; setB S hm U hi h3 h2 h6 h1 hz h
end
local macro_rules | `(tactic| wtm_at "r_cls") => `(tactic| first | exact clsW (by assumption) (by kernel_rfl!) | exact clsE (by assumption) (by kernel_rfl!))
inductive Meth (K : Frag) (c : Addr) (n : Str) (f : Addr) : Prop
  | mk (h1 : plainGet K c n = true) (h2 : findIn K (.ref c) n = some (some (.ref f))) (h3 : typeIn K (.ref f) = some (.type "function"))
noncomputable def methOk (K : Frag) (c : Addr) (n : Str) (f : Addr) : Bool := plainGet K c n && (match findIn K (.ref c) n with | some (some (.ref g)) => g == f | _ => false) && (match typeIn K (.ref f) with | some (.type t) => t == "function" | _ => false)
theorem meth_of {K : Frag} {P : Params} {c : Addr} {n : Str} {f : Addr} (hK : K = KK P) (h : methOk (KK P) c n f = true) : Meth K c n f := by
  subst hK
  unfold methOk at h
  simp only [Bool.and_eq_true] at h
  refine ⟨h.1.1, ?_, ?_⟩
  · have := h.1.2
    split at this
    · rename_i g e; rw [e, beq_iff_eq.mp this]
    · cases this
  · have := h.2
    split at this
    · rename_i t e; rw [e, beq_iff_eq.mp this]
    · cases this
theorem okm199_iter_namespaces {P : Params} : methOk (KK P) 199 (Str.ofString "_iter_namespaces") 124 = true := by kernel_rfl
theorem m199_iter_namespaces {K : Frag} {P : Params} (hK : K = KK P) : Meth K 199 (Str.ofString "_iter_namespaces") 124 := meth_of hK okm199_iter_namespaces
theorem okm199_qname {P : Params} : methOk (KK P) 199 (Str.ofString "_qname") 139 = true := by kernel_rfl
theorem m199_qname {K : Frag} {P : Params} (hK : K = KK P) : Meth K 199 (Str.ofString "_qname") 139 := meth_of hK okm199_qname
theorem okm199data {P : Params} : methOk (KK P) 199 (Str.ofString "data") 146 = true := by kernel_rfl
theorem m199data {K : Frag} {P : Params} (hK : K = KK P) : Meth K 199 (Str.ofString "data") 146 := meth_of hK okm199data
theorem okm199_flush {P : Params} : methOk (KK P) 199 (Str.ofString "_flush") 155 = true := by kernel_rfl
theorem m199_flush {K : Frag} {P : Params} (hK : K = KK P) : Meth K 199 (Str.ofString "_flush") 155 := meth_of hK okm199_flush
theorem okm199start {P : Params} : methOk (KK P) 199 (Str.ofString "start") 169 = true := by kernel_rfl
theorem m199start {K : Frag} {P : Params} (hK : K = KK P) : Meth K 199 (Str.ofString "start") 169 := meth_of hK okm199start
theorem okm199_start {P : Params} : methOk (KK P) 199 (Str.ofString "_start") 175 = true := by kernel_rfl
theorem m199_start {K : Frag} {P : Params} (hK : K = KK P) : Meth K 199 (Str.ofString "_start") 175 := meth_of hK okm199_start
theorem okm199end {P : Params} : methOk (KK P) 199 (Str.ofString "end") 182 = true := by kernel_rfl
theorem m199end {K : Frag} {P : Params} (hK : K = KK P) : Meth K 199 (Str.ofString "end") 182 := meth_of hK okm199end
theorem okm76applies_to {P : Params} : methOk (KK P) 76 (Str.ofString "applies_to") 66 = true := by kernel_rfl
theorem m76applies_to {K : Frag} {P : Params} (hK : K = KK P) : Meth K 76 (Str.ofString "applies_to") 66 := meth_of hK okm76applies_to
local macro_rules | `(tactic| wtm_at "r_meth") => `(tactic| first | with_reducible exact m199_iter_namespaces (by assumption) | with_reducible exact m199_qname (by assumption) | with_reducible exact m199data (by assumption) | with_reducible exact m199_flush (by assumption) | with_reducible exact m199start (by assumption) | with_reducible exact m199_start (by assumption) | with_reducible exact m199end (by assumption) | with_reducible exact m76applies_to (by assumption))
section
variable {prog : Program} {w : World} {A : Around} {E : Value → Shared → Prop} {C : Cx} {σ σ' : Led} {s : Shared} {name : Str} {m : List (Str × Value)} {x d Cc f : Addr}
theorem mthC {Q : Value × List Value → Shared → Prop} {pl : Sem Bool} (S : Sat C σ s) (hm : (x, .ins Cc d) ∈ σ) (hd : (d, .idc m) ∈ σ) (hc : Meth C.K Cc name f) (hx : m.lookup name = none) (h : Q (.ref f, [.ref x]) s) :
    wpAny (model prog w) A (getMethod (.ref x) name pl) Q E s := let ⟨h1, h2, h3⟩ := hc; mth S hm hd hx h1 h2 h3 h
end
section
variable {prog : Program} {w : World} {A : Around} {E : Value → Shared → Prop} {C : Cx} {σ σ' τ : Led} {s : Shared} {a l x d Cc : Addr} {xs : List Value} {env : Env} {name : Str} {m : List (Str × Value)} {pv : Value}
theorem mthOwn {Q : Value × List Value → Shared → Prop} {pl : Sem Bool} (S : Sat C σ s) (hm : (x, .ins Cc d) ∈ σ) (hd : (d, .idc m) ∈ σ) (hc : Cls C.K Cc name) (hx : m.lookup name = some pv) (hv : handedIn pv = true) (h : ∀ s', Sat C σ s' → Vs pv (fun v => Q (v, []) s')) :
    wpAny (model prog w) A (getMethod (.ref x) name pl) Q E s := by
  obtain ⟨od, es, ep, I, ho, e, k, ff, z⟩ := S.inst hm hd
  obtain ⟨h1, h2, h3, h4, h5, h6⟩ := id hc
  refine method_usual S.kin I (plainGet_of h4).1 (plainGet_of h4).2 h5 rfl ?_
  exact getC S hm hd hc hx hv fun s' S' => by
    have := h s' S'
    cases pv <;> exact this
theorem callWith_B {id : String} {self : Value} {pos : Pos} {first : List Value} {e : Expr} {rest : List Expr} {Q : Value → Shared → Prop} (_S : Sat C σ s) (_ha : (a, .raw (bndO id self)) ∈ σ)
    (h : wpAny (model prog w) A (spliced (backTo pos (starEach (e :: rest) env))) (fun vs s₁ => ∃ σ', Sat C σ' s₁ ∧ (a, .raw (bndO id self)) ∈ σ' ∧ wpAny (model prog w) A (call (.ref a) (first ++ vs)) Q E s₁) E s)
    (he : starEach (e :: rest) env = (false, eval e env) :: starEach rest env := by rfl) (hplain : (backTo pos (starEach rest env)).any (·.1) = false := by rfl) :
    wpAny (model prog w) A (callWith pos (.ref a) first (backTo pos (starEach (e :: rest) env)) []) Q E s := by
  rw [he] at h ⊢
  refine callWith_of (P := fun h => h.get? a = some (bndO id self)) (by show ((false || (backTo pos (starEach rest env)).any (·.1)) || false) = false; rw [hplain]; rfl) (fun h hp => ⟨.machine, .inr (.inl rfl), (Looks.ld (part := none) hp).andThen .now⟩) (evalArgs_plain (wpAny_mono h (fun vs s₁ h₁ => ?_) fun _ _ e => e))
  obtain ⟨σ', S', ha, h'⟩ := h₁
  obtain ⟨o, ho, hp⟩ := S'.get ha
  have hp : o = _ := hp
  subst hp
  exact ⟨ho, h'⟩
end
section
variable {prog : Program} {w : World} {A : Around} {E : Value → Shared → Prop} {C : Cx} {σ : Led} {s : Shared} {env : Env}
theorem ifF {c : Bool} {a b : Prop} (h : c = false) (x : b) : if c = true then a else b := by rw [h]; exact x
theorem ifT {c : Bool} {a b : Prop} (h : c = true) (x : a) : if c = true then a else b := by rw [h]; exact x
theorem fits {n : Nat} (h : n ≤ 1000000) : Builtin.Str.tooLong n = false := by unfold Builtin.Str.tooLong; rw [decide_eq_false_iff_not, sizeLine_eq]; wtm_at "om"
theorem callP {nm qual : Str} {params : Arguments} {body : List Stmt} {scope : Scope} {cl : List (Str × Addr)} {dV kV doc pm cdv ct oc : Value} {an od : Option Addr} {osl : Array (Option Value)} {args : List Value} {f : Addr} {Q : Value → Shared → Prop} {m : List (Str × Value)}
    (S : Sat C σ s) (hroom : A.depth < recursionLimit) (ho : C.K.lookup f = some ⟨oc, od, .func (fnX nm qual params body scope cl dV kV doc pm an cdv ct), osl⟩) (hcd : codeIn C.K cdv qual = true)
    (hbind : bindArgs (fnX nm qual params body scope cl dV kV doc pm an cdv ct) ⟨args, []⟩ = pure ((params.args.map (·.arg)).zip args)) (hloc : ((params.args.map (·.arg)).all fun y => scope.names.lookup y == some .local) = true)
    (hm : ((params.args.map (·.arg)).zip args).reverse.map (fun y => (y.1, er y.2)) = m)
    (h : ∀ L s', Sat C ((L, .ns m) :: σ) s' →
      wpAny (model prog w) (A.deeper (envX qual scope L f cdv cl)) (execs body (envX qual scope L f cdv cl)) (fun fl s'' => Q (match fl with | .ret v => v | _ => .none) s'') (fun _ _ => False) s')
    (hco : scope.isCoroutine = false := by rfl) (hgen : scope.isGenerator = false := by rfl) (hk : scope.kind = .function := by rfl) (hcell : ∀ x ∈ scope.names, x.2 ≠ .cell := by decide) :
    wpAny (model prog w) A (call (.ref f) args) Q E s := by
  subst hm
  refine callFn (args := ⟨args, []⟩) S hroom ho hcd (.of_eq hbind) (fun y hy => ?_) h hco hgen hk hcell
  have := List.all_eq_true.mp hloc y.1 (List.of_mem_zip hy).1
  exact beq_iff_eq.mp this
theorem cstr {x : Str} {k : Nat} {pos : Pos} {Q : Value → Shared → Prop} (S : Sat C σ s) (h : ∀ t s', Sat C σ s' → Q (.str x t) s') : wpAny (model prog w) A (eval (.Constant (.str x) k pos) env) Q E s := wpAny_Constant_str (h _ _ (S.tok _))
theorem cint {i : Int} {k : Nat} {pos : Pos} {Q : Value → Shared → Prop} (S : Sat C σ s) (h : ∀ t s', Sat C σ s' → Q (.int i t) s') : wpAny (model prog w) A (eval (.Constant (.int i) k pos) env) Q E s := wpAny_Constant_int (h _ _ (S.tok _))
theorem strs_er (l : List (Str × Tok)) : ((strValues l).toArray.toList.map er) = (l.map (·.1)).map fun x => Value.str x 0 := by
  simp only [strValues, List.map_map]
  rfl
theorem splitS {x y : Str} {t u : Tok} {Q : Value → Shared → Prop} (S : Sat C σ s) (hy : (y.length == 0) = false) (hx : x.length ≤ 1000000) (hn : (Txt.split x y).length ≤ 1000000)
    (h : ∀ D s', Sat C ((D, .lst ((Txt.split x y).map fun z => .str z 0)) :: σ) s' → Q (.ref D) s') : wpAny (model prog w) A (call (.builtin "str.split") [.str x t, .str y u]) Q E s := by
  have hsz : x.length ≤ sizeLine := by rw [sizeLine_eq]; wtm_at "om"
  have key : ∀ (l : List (Str × Tok)) k, l.map (·.1) = Txt.split x y → 0 < k → Q (.ref s.heap.objs.size) { s with toks := k, heap := s.heap.push { cls := .type "list", data := .seq (strValues l).toArray } }   := fun l k e hk => by
    refine h _ _ (S.push (p := .lst _) ⟨_, 0, rfl, ?_⟩ rfl k)
    rw [strs_er, e]
  cases h1 : (decide (x.length < y.length) || decide (Builtin.Str.strKind x < Builtin.Str.strKind y))
  · cases hf : (Builtin.Str.occurrences x y 0 x.length (x.length + 1)).isEmpty
    · have hsz2 : (Builtin.Str.partsBetween x (Builtin.Str.occurrences x y 0 x.length (x.length + 1)) y.length).length ≤ sizeLine := by
        rw [sizeLine_eq]
        have e : Txt.split x y = Builtin.Str.partsBetween x (Builtin.Str.occurrences x y 0 x.length (x.length + 1)) y.length := ((if_neg (ne_true_of_eq_false h1)).trans (if_neg (ne_true_of_eq_false hf)))
        rw [e] at hn
        wtm_at "om"
      refine call_meets F.slot_str_split (typeIs_str _ _ _) F.entry_str_split (F.args_str_split_2 _ _) (meets_str_split_sep x y t u h1 hy hf hsz hsz2) ?_
      show wants Q E _ { s with toks := _, heap := s.heap.push { cls := .type "list", data := .seq (strsFrom s.toks (Builtin.Str.partsBetween x (Builtin.Str.occurrences x y 0 x.length (x.length + 1)) y.length)).toArray } }
      rw [strsFrom_eq]
      exact key (numbered s.toks _) _ ((numbered_texts _ _).trans ((if_neg (ne_true_of_eq_false h1)).trans (if_neg (ne_true_of_eq_false hf))).symm) (by wtm_at "r_pos")
    · exact call_meets F.slot_str_split (typeIs_str _ _ _) F.entry_str_split (F.args_str_split_2 _ _) (meets_str_split_not_found x y t u h1 hy hf)
        (key [(x, t)] _ ((if_neg (ne_true_of_eq_false h1)).trans (if_pos hf)).symm (by wtm_at "r_pos"))
  · exact call_meets F.slot_str_split (typeIs_str _ _ _) F.entry_str_split (F.args_str_split_2 _ _) (meets_str_split_cannot_occur x y t u h1)
      (key [(x, t)] _ (if_pos h1).symm (by wtm_at "r_pos"))
theorem itemL {value slice : Expr} {l : Addr} {xs : List Value} {k : Int} {u : Tok} {pv : Value} {Q : Value → Shared → Prop} (S : Sat C σ s) (hl : (l, .lst xs) ∈ σ) (h0 : 0 ≤ k) (hfit : k < 2 ^ 63) (hx : xs[k.toNat]? = some pv) (h : Vs pv (fun v => Q v s))
    (hs : subscripted slice false (.ref l) (.int k u) = operate [.ref l, .int k u] (getItem (.ref l) (.int k u)) := by with_unfolding_all rfl) :
    wpAny (model prog w) A (subscriptTail value slice (.ref l) (.int k u)) Q E s := by
  obtain ⟨its, hL, he⟩ := S.isList hl
  rw [← he, List.getElem?_map] at hx
  obtain ⟨v, hv, e⟩ := Option.map_eq_some_iff.mp hx
  exact tail_any hL.typeIs slot_list_getitem.lookup (wpAny_getItem_list (x := v) hL h0 hfit (by simpa using hv) (h.get e)) hs
theorem lowerS {x : Str} {t : Tok} {Q : Value → Shared → Prop} (S : Sat C σ s) (hf : (Txt.lower x).length ≤ 1000000) (h : ∀ t s', Sat C σ s' → Q (.str (Txt.lower x) t) s') : wpAny (model prog w) A (call (.builtin "str.lower") [.str x t]) Q E s :=
  SC.lower (fits hf) (h _ _ (S.tok _))
end
local macro_rules | `(tactic| wtm_at "t_look0") => `(tactic| first | (wtm_at "r_lk"; done) | assumption | exact rfl)
local macro_rules | `(tactic| wtm_at "r_name") => `(tactic| ((with_reducible refine wpAny_Name ?_ (by with_unfolding_all rfl)); first
  | (refine ldL (by wtm_at "r_sat") (by wtm_at "r_mem") (by wtm_at "t_look0") (by rfl) (by rfl) ?_; dsimp only [Vs, er])
  | refine ldG (by wtm_at "r_sat") (by wtm_at "r_glob") (by rfl) (by rfl) (by rfl) ?_
  | refine ldB (by wtm_at "r_sat") (by wtm_at "r_k") (by wtm_at "r_bui") (by decide) (by rfl) (by rfl) (by rfl) (by rfl) ?_))
local macro_rules | `(tactic| wtm_at "r_st") => `(tactic| ((with_reducible refine' stL (by wtm_at "r_sat") ?m1 ?m3 ?m4 ?_); (case m1 => wtm_at "r_upd"); (case m3 => exact rfl); (case m4 => exact rfl)))
local macro_rules | `(tactic| wtm_at "r_getA") => `(tactic| ((with_reducible refine' getC (by wtm_at "r_sat") ?m1 ?m2 ?m4 ?m3 ?m7 ?_); (case m1 => wtm_at "r_mem"); (case m2 => wtm_at "r_mem"); (case m4 => wtm_at "r_cls"); (case m3 => first | (wtm_at "r_lk"; done) | assumption | exact rfl); (case m7 => exact rfl); (intro _ _; dsimp only [Vs, er])))
local macro_rules | `(tactic| wtm_at "r_setA") => `(tactic| ((with_reducible refine' setC (by wtm_at "r_sat") ?m1 ?m2 ?m3 ?m7 ?_); (case m1 => wtm_at "r_mem"); (case m2 => wtm_at "r_upd"); (case m3 => wtm_at "r_cls"); (case m7 => wtm_at "r_le"); (intro _ _)))
local macro_rules | `(tactic| wtm_at "r_mth") => `(tactic| first
  | ((with_reducible refine' mthC (by wtm_at "r_sat") ?m1 ?m2 ?m3 ?m4 ?_); (case m1 => wtm_at "r_mem"); (case m2 => wtm_at "r_mem"); (case m3 => wtm_at "r_meth"); (case m4 => kernel_rfl!))
  | ((with_reducible refine' mthOwn (by wtm_at "r_sat") ?o1 ?o2 ?o3 ?o4 ?o5 ?_); (case o1 => wtm_at "r_mem"); (case o2 => wtm_at "r_mem"); (case o3 => wtm_at "r_cls"); (case o4 => first | (wtm_at "r_lk"; done) | assumption | exact rfl); (case o5 => exact rfl); (intro _ _; dsimp only [Vs, er]))
  | ((with_reducible refine' gmL PySem.slot_list_append PySem.type_list_append (by wtm_at "r_sat") ?l1 ?_); (case l1 => wtm_at "r_mem"))
  | ((with_reducible refine' gmL PySem.F.slot_list_extend PySem.F.type_list_extend (by wtm_at "r_sat") ?l1 ?_); (case l1 => wtm_at "r_mem")))
local macro_rules | `(tactic| wtm_at "r_mk") => `(tactic| first
  | (refine' ⟨_, ?s1, ?s2, ?_⟩; (case s1 => wtm_at "r_sat"); (case s2 => wtm_at "r_le"); (intro _ _ _))
  | (refine' ⟨_, ?s1, ?s2, ?_⟩; (case s1 => wtm_at "r_sat"); (case s2 => wtm_at "r_mem")))
local macro_rules | `(tactic| wtm_at "r_ev") => do
  let a := ids "wpAny_execs_nil wpAny_execs_cons wpAny_If wpAny_Return_some wpAny_isTrue_Compare1 isTrue_not isTrue_and isTrue_and_nil wpAny_Constant_none wpAny_Constant_bool wpAny_IfExp Subscript_ is_none isNot_none PySem.P.ne_str PySem.P.eq_str PySem.SB.contains PySem.GM.split PySem.GM.lower wpAny_truthy_bool truthy_none PySem.P.truthy_int wpAny_items_nil callWith_method0 callWith_type0"
  let b := ids "wpAny_Assign_Name plainObj_wpAny_Assign_Attribute isTrue_plain MethodCall_ Call_ Attribute_any_ wpAny_items_cons"
  let d := ids "cstr cint evD0"
  let e := ids "evL evT"
  let c := ids "wpAny_Expr_any callWith_method1 PyProof.Rows.callWith_type1"
  `(tactic| first
  $[| with_reducible refine $a ?_]*
  $[| with_reducible refine $b ?_ (by with_unfolding_all rfl)]*
  $[| with_reducible refine $c ?_ (by with_unfolding_all rfl) (by with_unfolding_all rfl)]*
  $[| (with_reducible refine $d (by wtm_at "r_sat") ?_; intro _ _ _)]*
  $[| with_reducible refine $e (by wtm_at "r_sat") ?_]*
  | ((with_reducible show wpAny _ _ (exec (Stmt.For _ _ _ _ _) _) _ _ _); refine wpAny_For ?_)
  | wtm_at "r_name"
  | ((with_reducible show wpAny _ _ (call (Value.builtin "list.append") _) _ _ _); refine appendS (by wtm_at "r_sat") (by wtm_at "r_upd") (by wtm_at "r_le") ?_; intro _ _)
  | ((with_reducible show wpAny _ _ (truthy (Value.ref _)) _ _ _); refine truthyL (by wtm_at "r_sat") (by wtm_at "r_mem") (by wtm_at "r_le") ?_; intro _ _)
  | ((with_reducible show wpAny _ _ (callWith _ (Value.ref _) _ (backTo _ (starEach (_ :: _) _)) []) _ _ _); refine' callWith_K (K := Cx.K _) (Sat.kin (by wtm_at "r_sat")) ?k1 ?_; (case k1 => exact keep_of (by assumption) (by decide)))
  | ((with_reducible show wpAny _ _ (callWith _ (Value.ref _) _ (backTo _ (starEach (_ :: _) _)) []) _ _ _); refine callWith_B (by wtm_at "r_sat") (by wtm_at "r_mem") ?_)
  | ((with_reducible show wpAny _ _ (callWith _ (Value.ref _) _ (backTo _ (starEach [] _)) []) _ _ _); refine' callWith_K0 (K := Cx.K _) (Sat.kin (by wtm_at "r_sat")) ?k1 ?_; (case k1 => exact keep_of (by assumption) (by decide)))
  | wtm_at "r_mth"
  | wtm_at "r_getA"
  | wtm_at "r_setA"
  | (wtm_at "r_st"; intro _ _)
  | ((with_reducible show Frag.In _ _ ∧ _); refine ⟨Sat.kin (by wtm_at "r_sat"), ?_⟩)
  | ((with_reducible show ite _ _ _); first | refine ifF rfl ?_ | refine ifT rfl ?_)
  | ((with_reducible show ∃ _ : Led, _); wtm_at "r_mk")
  | ((with_reducible show ∀ _, _); intro _))
local macro_rules | `(tactic| wtm_at "r_go") => `(tactic| repeat (first | wtm_at "r_ev" | (dsimp only; wtm_at "r_ev") | (dsimp only [List.cons_append, List.nil_append]; wtm_at "r_ev")))
section
variable {prog : Program} {w : World} {A : Around} {E : Value → Shared → Prop} {C : Cx} {σ : Led} {s : Shared}
set_option maxHeartbeats 1000000
noncomputable def hits (u a : Str) : Bool := (a.cps.toList != (Str.ofString "*").cps.toList) && Txt.contains u (Txt.lower a)
noncomputable def asked (u : Str) : Str := Txt.lower ((Txt.split u (Str.ofString "/"))[0]?.getD Str.empty)
theorem applies_test {self d l : Addr} {fs : List (Str × Value)} {ags : List Str} {u : Str} {t : Tok} {Q : Value → Shared → Prop} (hK : C.K = KK w.params) (S : Sat C σ s) (R : Rm 3 A)
    (h1 : (self, .ins 76 d) ∈ σ) (h2 : (d, .idc fs) ∈ σ) (h3 : fs.lookup (Str.ofString "useragents") = some (.ref l)) (h4 : (l, .lst (ags.map fun x => .str x 0)) ∈ σ) (hu : u.length ≤ 1000000) (hu1 : (Txt.split u (Str.ofString "/")).length ≤ 1000000) (hu2 : (asked u).length ≤ 1000000) (hag : ∀ a ∈ ags, (Txt.lower a).length ≤ 1000000)
    (hQ : ∀ s', Sat C σ s' → Q (.bool (ags.any (hits (asked u)))) s') :
    wpAny (model prog w) A (call (.ref 66) [.ref self, .str u t]) Q E s := by
  refine' callP (m := [(Str.ofString "useragent", .str u 0), (Str.ofString "self", .ref self)]) S R.room (ho := ?k1) (hcd := ?k2) (hbind := ?k3) (hloc := ?k4) (hm := ?k0) (h := ?k5) ?k6 ?k7 ?k8 ?k9
  case k1 => rw [hK]; exact lookup_KK rfl rfl
  case k2 => wtm_at "r_k"
  case k3 => kernel_rfl
  case k4 => kernel_rfl
  case k0 => exact rfl
  case k6 => rfl
  case k7 => rfl
  case k8 => rfl
  case k9 => decide
  intro L s₁ S₁
  wtm_at "r_go"
  dsimp only [List.cons_append, List.nil_append]
  refine splitS (by wtm_at "r_sat") rfl hu hu1 (fun D s₂ S₂ => ?_)
  wtm_at "r_go"
  obtain ⟨y, ys, hy⟩ : ∃ y ys, Txt.split u (Str.ofString "/") = y :: ys := by
    have := split_pos u (Str.ofString "/")
    cases h : Txt.split u (Str.ofString "/") with
    | nil => rw [h] at this; simp at this
    | cons y ys => exact ⟨y, ys, rfl⟩
  refine itemL (pv := .str y 0) (by wtm_at "r_sat") (by wtm_at "r_mem") (by decide) (by decide) (by rw [hy]; rfl) ?_
  intro t5
  wtm_at "r_go"
  have hA : Txt.lower y = asked u := by unfold asked; rw [hy]; rfl
  refine lowerS (by wtm_at "r_sat") (by rw [hA]; exact hu2) ?_
  rw [hA]
  intro t6 s₃ S₃
  wtm_at "r_go"
  refine' forLst (l := l) (xs := ags.map fun x => .str x 0) (ht := ?ht) (Sat.sub (σ := (D, _) :: (L, _) :: σ) (by wtm_at "r_sat") (List.sublist_cons_self _ _)) (by wtm_at "r_mem") R.hand (fun r τ => ∃ m' done rest, τ = (L, .ns m') :: σ ∧ ags = done ++ rest ∧ r = rest.map (fun x => .str x 0) ∧ (∀ a ∈ done, hits (asked u) a = false) ∧ m'.lookup (Str.ofString "useragent") = some (.str (asked u) 0)) ?j0 ?j1 ?j2 ?j3
  case ht => intro _ _; rfl
  case j0 => exact ⟨_, [], ags, rfl, rfl, rfl, (fun _ h => nomatch h), rfl⟩
  case j1 => rintro r τ ⟨m', done, rest, rfl, _⟩; wtm_at "r_mem"
  case j2 =>
    rintro pv r τ it i s₄ ⟨m', done, rest, rfl, e, er, hd, hm⟩ S₄
    cases rest with
    | nil => cases er
    | cons a rest =>
      cases er
      intro ta
      with_reducible refine wpAny_assign_Name ?_
      wtm_at "r_go"
      have step : hits (asked u) a = false → ∀ m' s', Sat C ((it, itr l i) :: (L, .ns m') :: σ) s' → m'.lookup (Str.ofString "useragent") = some (.str (asked u) 0) →
          ∃ τ', (∃ m' done' rest', τ' = (L, PO.ns m') :: σ ∧ ags = done' ++ rest' ∧ rest.map (fun x => Value.str x 0) = rest'.map (fun x => .str x 0) ∧ (∀ a ∈ done', hits (asked u) a = false) ∧ m'.lookup (Str.ofString "useragent") = some (.str (asked u) 0)) ∧ Sat C ((it, itr l i) :: τ') s' := by
        intro ha m' s' S' hm
        refine ⟨_, ⟨m', done ++ [a], rest, rfl, by rw [e, List.append_assoc]; rfl, rfl, fun b hb => ?_, hm⟩, S'⟩
        rcases List.mem_append.mp hb with hb | hb
        · exact hd b hb
        · rw [List.mem_singleton.mp hb]; exact ha
      have hla : (Txt.lower a).length ≤ 1000000 := hag a (by rw [e]; exact List.mem_append_right _ (.head _))
      cases hs : (a.cps.toList != (Str.ofString "*").cps.toList) with
      | false =>
        refine ifF rfl ?_
        wtm_at "r_go"
        refine' step (by unfold hits; rw [hs]; rfl) ?mm ?ss ?aa ?bb
        case aa => wtm_at "r_sat"
        case bb => exact hm
      | true =>
        refine ifT rfl ?_
        wtm_at "r_go"
        refine lowerS (by wtm_at "r_sat") hla ?_
        intro t7 s₅ S₅
        wtm_at "r_go"
        cases hc : Txt.contains (asked u) (Txt.lower a) with
        | false =>
          refine ifF rfl ?_
          wtm_at "r_go"
          refine' step (by unfold hits; rw [hs, hc]; rfl) ?mm2 ?ss2 ?aa2 ?bb2
          case aa2 => wtm_at "r_sat"
          case bb2 => exact hm
        | true =>
          refine ifT rfl ?_
          wtm_at "r_go"
          have : ags.any (hits (asked u)) = true := List.any_eq_true.mpr ⟨a, by rw [e]; exact List.mem_append_right _ (.head _), by unfold hits; rw [hs, hc]; rfl⟩
          rw [← this]
          refine hQ _ (Sat.sub (σ := (it, _) :: (L, _) :: σ) (by wtm_at "r_sat") ?_)
          exact (List.sublist_cons_self _ _).trans (List.sublist_cons_self _ _)
  case j3 =>
    rintro τ s₄ ⟨m', done, rest, rfl, e, er, hd, hm⟩ S₄
    have : rest = [] := by cases rest <;> first | rfl | cases er
    subst this
    wtm_at "r_go"
    have : ags.any (hits (asked u)) = false := by
      rw [List.any_eq_false]; intro a ha; rw [hd a (by rw [e] at ha; simpa using ha)]; exact Bool.false_ne_true
    have z := hQ _ (S₄.sub (List.sublist_cons_self _ _))
    rw [this] at z
    exact z
end
set_option maxHeartbeats 1000000
section
variable {prog : Program} {w : World} {A : Around} {E : Value → Shared → Prop} {C : Cx} {σ : Led} {s : Shared} {Q : Value → Shared → Prop}
theorem callCP {R : Result → Shared → Prop} {nm qual : Str} {params : Arguments} {body : List Stmt} {scope : Scope} {cl : List (Str × Addr)} {dV kV doc pm cdv ct oc : Value} {an od : Option Addr} {osl : Array (Option Value)} {args : List Value} {f : Addr} {m : List (Str × Value)}
    (S : Sat C σ s) (hroom : A.depth < recursionLimit) (ho : C.K.lookup f = some ⟨oc, od, .func (fnX nm qual params body scope cl dV kV doc pm an cdv ct), osl⟩) (hcd : codeIn C.K cdv qual = true)
    (hbind : bindArgs (fnX nm qual params body scope cl dV kV doc pm an cdv ct) ⟨args, []⟩ = pure ((params.args.map (·.arg)).zip args)) (hloc : ((params.args.map (·.arg)).all fun y => scope.names.lookup y == some .local) = true)
    (hm : ((params.args.map (·.arg)).zip args).reverse.map (fun y => (y.1, er y.2)) = m)
    (h : ∀ L s', Sat C ((L, .ns m) :: σ) s' →
      wpAny (model prog w) (A.deeper (envX qual scope L f cdv cl)) (execs body (envX qual scope L f cdv cl)) (fun fl s'' => R (.ok (.ret (match fl with | .ret v => v | _ => .none))) s'') (fun _ _ => False) s')
    (hco : scope.isCoroutine = false := by rfl) (hgen : scope.isGenerator = false := by rfl) (hk : scope.kind = .function := by rfl) (hcell : ∀ x ∈ scope.names, x.2 ≠ .cell := by decide) :
    codeAny (model prog w) A (.call (.ref f) ⟨args, []⟩) R s := by
  subst hm
  refine callFnC (args := ⟨args, []⟩) S hroom ho hcd (.of_eq hbind) (fun y hy => ?_) h hco hgen hk hcell
  have := List.all_eq_true.mp hloc y.1 (List.of_mem_zip hy).1
  exact beq_iff_eq.mp this
noncomputable def entryF (u r : Addr) : List (Str × Value) := [(Str.ofString "req_rate", .none), (Str.ofString "delay", .none), (Str.ofString "rulelines", .ref r), (Str.ofString "useragents", .ref u)]
theorem newEntry (hK : C.K = KK w.params) (S : Sat C σ s) (R : Rm 3 A)
    (hQ : ∀ x d u r s', Sat C ((r, .lst []) :: (u, .lst []) :: (x, .ins 76 d) :: (d, .idc (entryF u r)) :: σ) s' → Q (.ref x) s') :
    wpAny (model prog w) A (call (.ref 76) []) Q E s := by
  refine newI (fI := 52) S (by wtm_at "r_k") (by wtm_at "r_k") (by wtm_at "r_k") fun x d s₁ S₁ => ?_
  refine' callCP (m := [(Str.ofString "self", .ref x)]) S₁ (Rm.room (Rm.under R)) (ho := ?k1) (hcd := ?k2) (hbind := ?k3) (hloc := ?k4) (hm := ?k0) (h := ?k5) ?k6 ?k7 ?k8 ?k9
  case k1 => rw [hK]; exact lookup_KK rfl rfl
  case k2 => wtm_at "r_k"
  case k3 => kernel_rfl
  case k4 => kernel_rfl
  case k0 => exact rfl
  case k6 => rfl
  case k7 => rfl
  case k8 => rfl
  case k9 => decide
  intro L s₂ S₂
  wtm_at "r_go"
  exact ⟨rfl, hQ x d _ _ _ (Sat.sub (by wtm_at "r_sat") (by wtm_at "r_sub"))⟩
theorem law_record {l : Addr} {ags : List Str} (hK : C.K = KK w.params) (S : Sat C σ s) (R : Rm 5 A) (hl : (l, .lst (txts ags)) ∈ σ) (hz : ags.length ≤ 1000)
    (hQ : ∀ x d u r s', Sat C ((r, .lst []) :: (u, .lst (txts ags)) :: (x, .ins 76 d) :: (d, .idc (entryF u r)) :: σ) s' → Q (.ref x) s') :
    wpAny (model prog w) A (call (.ref 224) [.ref l]) Q E s := by
  refine' callP (m := [(Str.ofString "agents", .ref l)]) S R.room (ho := ?k1) (hcd := ?k2) (hbind := ?k3) (hloc := ?k4) (hm := ?k0) (h := ?k5) ?k6 ?k7 ?k8 ?k9
  case k1 => rw [hK]; exact lookup_KK rfl rfl
  case k2 => wtm_at "r_k"
  case k3 => kernel_rfl
  case k4 => kernel_rfl
  case k0 => exact rfl
  case k6 => rfl
  case k7 => rfl
  case k8 => rfl
  case k9 => decide
  intro L s₁ S₁
  wtm_at "r_go"
  refine newEntry hK S₁ ((R.down.deeper _)) fun x d u r s₂ S₂ => ?_
  wtm_at "r_go"
  refine extendS (by wtm_at "r_sat") (b := l) (ys := txts ags) (by wtm_at "r_mem") (by wtm_at "r_upd") (by wtm_at "r_le") fun s₃ S₃ => ?_
  wtm_at "r_go"
  exact hQ x d u r _ (Sat.sub (by wtm_at "r_sat") (by wtm_at "r_sub"))
end
set_option maxHeartbeats 1000000
section
variable {prog : Program} {w : World} {A : Around} {E : Value → Shared → Prop} {C : Cx} {σ : Led} {s : Shared} {Q : Value → Shared → Prop}
noncomputable def esc1 (x y z : Str) : Str := if Txt.contains x y = true then Txt.replace x y z else x
theorem escIf {env : Env} {n x y z : Str} {m : List (Str × Value)} {k1 k2 k3 : Nat} {p1 p2 p3 p4 p5 p6 p7 p8 p9 p10 p11 : Pos} {Q : Flow → Shared → Prop} (S : Sat C ((env.locals, .ns m) :: σ) s) (hm : m.lookup n = some (.str x 0)) (hyz : (y == z) = false)
    (hb : x.length + (x.length + 1) * z.length ≤ 16777216) (hk : env.scope.kind = .function) (hn : env.kindOf n = some .local) (hd : (n == ("__debug__" : Str)) = false)
    (hsw : swapsWith (.Call (.Attribute (.Name n p5) "replace" p6) [.Constant (.str y) k2 p7, .Constant (.str z) k3 p8] [] p9) (some (.Name n p4)) p10.line env = pure false)
    {pl : Sem Bool} (he : eval (.Call (.Attribute (.Name n p5) "replace" p6) [.Constant (.str y) k2 p7, .Constant (.str z) k3 p8] [] p9) env = (do
      let ov ← eval (.Name n p5) env
      standAt p6.atName
      let (f, first) ← holding [ov] (getMethod ov (Str.ofString "replace") pl)
      callWith p9 f first (backTo p9 (starEach [.Constant (.str y) k2 p7, .Constant (.str z) k3 p8] env)) []))
    (h : ∀ m' s', m'.lookup n = some (.str (esc1 x y z) 0) → Sat C ((env.locals, .ns m') :: σ) s' → Q .next s') :
    wpAny (model prog w) A (exec (.If (.Compare (.Constant (.str y) k1 p1) [.In] [.Name n p2] p3) [.Assign [.Name n p4] (.Call (.Attribute (.Name n p5) "replace" p6) [.Constant (.str y) k2 p7, .Constant (.str z) k3 p8] [] p9) p10] [] p11) env) Q E s := by
  refine wpAny_If (wpAny_isTrue_Compare1 (cstr S fun t s₁ S₁ => wpAny_Name (ldL S₁ (.head _) hm hk hn ?_) hd))
  intro t1
  refine SB.contains (wpAny_truthy_bool ?_)
  cases hc : Txt.contains x y with
  | false =>
    refine ifF rfl (wpAny_execs_nil (h m s₁ ?_ S₁))
    unfold esc1; rw [hc]; exact hm
  | true =>
    refine ifT rfl (wpAny_execs_cons (wpAny_Assign_Name (hs := hsw) (MethodCall_ (he := he) (wpAny_Name (ldL S₁ (.head _) hm hk hn ?_) hd))))
    intro t2
    with_reducible refine GM.replace ?_
    refine replaceS S₁ hyz hb fun t3 s₂ S₂ => ?_
    refine stL S₂ .head hn hk fun s₃ S₃ => wpAny_execs_nil (h _ s₃ ?_ S₃)
    unfold esc1; rw [hc, if_pos rfl, List.lookup_cons]; simp [er]
noncomputable def escC (x : Str) : Str := esc1 (esc1 (esc1 (esc1 x (Str.ofString "&") (Str.ofString "&amp;")) (Str.ofString "<") (Str.ofString "&lt;")) (Str.ofString ">") (Str.ofString "&gt;")) (Str.ofString "\r") (Str.ofString "&#xD;")
noncomputable def short (x : Str) : Prop := x.length ≤ 100000
theorem esc_cdata {x : Str} {t : Tok} (hK : C.K = KK w.params) (S : Sat C σ s) (R : Rm 2 A) (h1 : short x) (h2 : short (esc1 x (Str.ofString "&") (Str.ofString "&amp;"))) (h3 : short (esc1 (esc1 x (Str.ofString "&") (Str.ofString "&amp;")) (Str.ofString "<") (Str.ofString "&lt;")))
    (h4 : short (esc1 (esc1 (esc1 x (Str.ofString "&") (Str.ofString "&amp;")) (Str.ofString "<") (Str.ofString "&lt;")) (Str.ofString ">") (Str.ofString "&gt;")))
    (hQ : ∀ t s', Sat C σ s' → Q (.str (escC x) t) s') : wpAny (model prog w) A (call (.ref 210) [.str x t]) Q E s := by
  unfold short at h1 h2 h3 h4
  refine' callP (m := [(Str.ofString "text", .str x 0)]) S R.room (ho := ?k1) (hcd := ?k2) (hbind := ?k3) (hloc := ?k4) (hm := ?k0) (h := ?k5) ?k6 ?k7 ?k8 ?k9
  case k1 => rw [hK]; exact lookup_KK rfl rfl
  case k2 => wtm_at "r_k"
  case k3 => kernel_rfl
  case k4 => kernel_rfl
  case k0 => exact rfl
  case k6 => rfl
  case k7 => rfl
  case k8 => rfl
  case k9 => decide
  intro L s₁ S₁
  refine wpAny_execs_cons (wpAny_Try_except ?_)
  refine wpAny_execs_cons (escIf S₁ rfl (by decide) (by show _ + _ * 5 ≤ _; wtm_at "om") rfl rfl (by decide) rfl rfl fun m1 s₂ l1 S₂ => ?_)
  refine wpAny_execs_cons (escIf S₂ l1 (by decide) (by show _ + _ * 4 ≤ _; wtm_at "om") rfl rfl (by decide) rfl rfl fun m2 s₃ l2 S₃ => ?_)
  refine wpAny_execs_cons (escIf S₃ l2 (by decide) (by show _ + _ * 4 ≤ _; wtm_at "om") rfl rfl (by decide) rfl rfl fun m3 s₄ l3 S₄ => ?_)
  refine wpAny_execs_cons (escIf S₄ l3 (by decide) (by show _ + _ * 5 ≤ _; wtm_at "om") rfl rfl (by decide) rfl rfl fun m4 s₅ l4 S₅ => ?_)
  wtm_at "r_go"
  exact hQ _ _ (S₅.sub (List.sublist_cons_self _ _))
end
set_option maxHeartbeats 1000000
section
variable {prog : Program} {w : World} {A : Around} {E : Value → Shared → Prop} {C : Cx} {σ : Led} {s : Shared} {Q : Value → Shared → Prop}
theorem nsmap (hK : C.K = KK w.params) (S : Sat C σ s) : ∃ kvs ep, s.heap.DictAt (PySem.strKind prog w) 93 kvs ep ∧ kvs.length ≤ 1000 := by
  have key : ∀ (es : Array DictEntry) ep, (KK w.params).lookup 93 = some { cls := .type "dict", data := .dict es ep } → (∀ e ∈ es.toList, ∃ x t, e.key = .str x t ∧ e.hash = PyData.keyHash w.params x) →
      ((es.toList.map fun e => txtOf e.key)).Nodup → es.toList.length ≤ 1000 → ∃ kvs ep, s.heap.DictAt (PySem.strKind prog w) 93 kvs ep ∧ kvs.length ≤ 1000 := by
    intro es ep h1 h2 h3 h4
    refine ⟨es.toList.map fun e => (txtOf e.key, e.val), ep, ⟨_, es, S.kin _ _ (by rw [hK]; exact h1), ⟨rfl, rfl, rfl⟩, rfl, fun e he => ?_, ?_, ?_⟩, by rw [List.length_map]; exact h4⟩
    · obtain ⟨x, t, e1, e2⟩ := h2 e (Array.mem_toList_iff.mpr he)
      exact ⟨x, by rw [e1]; exact strKind_is .., by rw [e2]; rfl⟩
    · generalize es.toList = l at h2
      induction l with
      | nil => exact .nil
      | cons e r ih =>
        obtain ⟨x, t, e1, _⟩ := h2 e (.head _)
        exact .cons (by show (PySem.strKind prog w).is (txtOf e.key) e.key = true; rw [e1]; exact strKind_is ..) rfl (ih fun e he => h2 e (.tail _ he))
    · rw [List.map_map]; exact h3
  refine key _ _ (lookup_KK rfl rfl) ?_ ?_ ?_
  · intro e he
    simp only [List.mem_cons, List.not_mem_nil, or_false] at he
    rcases he with rfl | rfl | rfl | rfl | rfl | rfl | rfl <;> exact ⟨_, _, rfl, rfl⟩
  · simp only [List.map_cons, List.map_nil, txtOf]; decide +kernel
  · exact Nat.le_of_ble_eq_true rfl
noncomputable def viewO : Obj := { cls := .type "dict_items", data := .fields #[.ref 93] }
theorem gmK {pl : Sem Bool} {Q : Value × List Value → Shared → Prop} (hK : C.K = KK w.params) (S : Sat C σ s) (h : Q (.builtin "dict.items", [.ref 93]) s) : wpAny (model prog w) A (getMethod (.ref 93) "items" pl) Q E s := by
  obtain ⟨kvs, ep, hm, _⟩ := nsmap (prog := prog) hK S
  exact getMethod_builtin hm.dictOf.typeIs PySem.F.plainAttrs_dict PySem.F.slot_dict_items PySem.F.type_dict_items hm.dictOf.mapOf.noDict h
theorem itemsK (hK : C.K = KK w.params) (S : Sat C σ s) (h : ∀ v s', Sat C ((v, .raw viewO) :: σ) s' → Q (.ref v) s') : wpAny (model prog w) A (call (.builtin "dict.items") [.ref 93]) Q E s := by
  obtain ⟨kvs, ep, hm, _⟩ := nsmap (prog := prog) hK S
  exact call_meetsIn PySem.F.slot_dict_items hm.dictOf.typeIs PySem.F.entry_dict_items (PySem.F.args_dict_items_1 _) (meets_dict_items _ 93 rfl) ⟨⟨kvs, hm.dictOf⟩, h _ _ (S.push (p := .raw viewO) rfl rfl s.toks)⟩
theorem listK {v : Addr} (hK : C.K = KK w.params) (S : Sat C σ s) (hv : (v, .raw viewO) ∈ σ) (hh : A.handled = none) (h : ∀ D s', Sat C ((D, .prd fun _ => True) :: σ) s' → Q (.ref D) s') : wpAny (model prog w) A (call (.type "list") [.ref v]) Q E s := by
  obtain ⟨kvs, ep, hm, hl⟩ := nsmap (prog := prog) hK S
  obtain ⟨o, ho, hp⟩ := S.get hv
  have hp : o = viewO := hp
  subst hp
  exact listItems S hh ⟨_, ho, rfl, rfl⟩ hm hl h
end
set_option maxHeartbeats 1000000
section
variable {prog : Program} {w : World} {A : Around} {E : Value → Shared → Prop} {C : Cx} {σ : Led} {s : Shared} {Q : Value → Shared → Prop}
theorem locAll {binds : List (Str × Value)} {names : List (Str × NameKind)} (h : (binds.all fun y => names.lookup y.1 == some NameKind.local) = true) : ∀ y ∈ binds, names.lookup y.1 = some .local := fun y hy => beq_iff_eq.mp (List.all_eq_true.mp h y hy)
noncomputable def wrF (wr da et de ns pm ps : Addr) (seen done : Bool) (ign : Int) : List (Str × Value) :=
  [(Str.ofString "_ignored_depth", .int ign 0), (Str.ofString "_root_done", .bool done), (Str.ofString "_root_seen", .bool seen), (Str.ofString "_pending_start", .none), (Str.ofString "_preserve_space", .ref ps),
    (Str.ofString "_prefix_map", .ref pm), (Str.ofString "_ns_stack", .ref ns), (Str.ofString "_declared_ns_stack", .ref de), (Str.ofString "_find_qname_aware_attrs", .none), (Str.ofString "_qname_aware_tags", .none),
    (Str.ofString "_rewrite_prefixes", .bool false), (Str.ofString "_exclude_tags", .ref et), (Str.ofString "_exclude_attrs", .none), (Str.ofString "_strip_text", .bool false), (Str.ofString "_with_comments", .bool false),
    (Str.ofString "_data", .ref da), (Str.ofString "_write", .ref wr)]
noncomputable def xmlU : Str := Str.ofString "http://www.w3.org/XML/1998/namespace"
noncomputable def xmlP : Str := Str.ofString "xml"
theorem newWriter {wa el : Addr} {ex : List Str} (hK : C.K = KK w.params) (S : Sat C σ s) (R : Rm 4 A) (he : (el, .lst (txts ex)) ∈ σ) (hn : ex ≠ []) (hz : ex.length ≤ 1000)
    (hQ : ∀ x d da et n t dl de ns D n1 pm ps s', n ≤ ex.length → Sat C ((ps, .lst [.bool false]) :: (n1, .lst []) :: (ns, .lst [.ref D, .ref n1]) :: (de, .lst [.ref dl]) :: (dl, .lst [.ref t]) :: (t, .tup [.str xmlU 0, .str xmlP 0]) ::
      (et, stp prog w (fun y => ex.any fun z => decide (y = z)) n) :: (da, .lst []) :: (x, .ins 199 d) :: (d, .idc (wrF wa da et de ns pm ps false false 0)) :: σ) s' → Q (.ref x) s') :
    wpAny (model prog w) A (call (.ref 199) [.ref wa] [(Str.ofString "exclude_tags", .ref el)]) Q E s := by
  refine newI (fI := 116) S (by wtm_at "r_k") (by wtm_at "r_k") (by wtm_at "r_k") fun x d s₁ S₁ => ?_
  refine' callFnC (binds := [(Str.ofString "self", .ref x), (Str.ofString "write", .ref wa), (Str.ofString "with_comments", .bool false), (Str.ofString "strip_text", .bool false), (Str.ofString "rewrite_prefixes", .bool false), (Str.ofString "qname_aware_tags", .none),
    (Str.ofString "qname_aware_attrs", .none), (Str.ofString "exclude_attrs", .none), (Str.ofString "exclude_tags", .ref el)]) S₁ (Rm.room (Rm.under R)) (ho := ?k1) (hcd := ?k2) (hbind := ?k3) (hloc := ?k4) (h := ?k5) ?k6 ?k7 ?k8 ?k9
  case k1 => rw [hK]; exact lookup_KK rfl rfl
  case k2 => wtm_at "r_k"
  case k3 => exact kp_binds (K := KK w.params) (hK ▸ S₁.kin) fun S => by kernel_rfl!
  case k4 => exact locAll rfl
  case k6 => rfl
  case k7 => rfl
  case k8 => rfl
  case k9 => decide
  intro L s₂ S₂
  dsimp only [List.reverse_cons, List.reverse_nil, List.nil_append, List.cons_append, List.map_cons, List.map_nil, er] at S₂
  wtm_at "r_go"
  have hne : (!(txts ex).isEmpty) = true := by cases ex <;> first | exact absurd rfl hn | rfl
  refine ifT hne ?_
  wtm_at "r_go"
  refine setOfL (by wtm_at "r_sat") (xs := ex) (by wtm_at "r_mem") (by wtm_at "om") R.hand fun et n s₃ hn' S₃ => ?_
  wtm_at "r_go"
  refine gmK hK (by wtm_at "r_sat") ?_
  wtm_at "r_go"
  refine itemsK hK (by wtm_at "r_sat") fun v s₄ S₄ => ?_
  wtm_at "r_go"
  refine listK hK (by wtm_at "r_sat") (v := v) (by wtm_at "r_mem") R.hand fun D s₅ S₅ => ?_
  wtm_at "r_go"
  exact ⟨rfl, hQ x d _ et n _ _ _ _ _ _ _ _ _ hn' (Sat.sub (by wtm_at "r_sat") (by wtm_at "r_sub"))⟩
end
set_option maxHeartbeats 1000000
section
variable {prog : Program} {w : World} {A : Around} {E : Value → Shared → Prop} {C : Cx} {σ σ' : Led} {s : Shared} {Q : Value → Shared → Prop} {x d wa da et de ns pm ps : Addr} {seen dn : Bool} {ign : Int} {ds : List Str} {u : Str} {t : Tok}
theorem Upd.same {a : Addr} {p : PO} {σ σ' : Led} (U : Upd a p p σ σ') (_ : (σ.map (·.1)).Nodup) : σ' = σ := by
  induction U with
  | head => rfl
  | tail U ih => rename_i nd; rw [ih (by rw [List.map_cons, List.nodup_cons] at nd; exact nd.2)]
theorem wr_data (hK : C.K = KK w.params) (S : Sat C σ s) (R : Rm 2 A) (hx : (x, .ins 199 d) ∈ σ) (hd : (d, .idc (wrF wa da et de ns pm ps seen dn ign)) ∈ σ) (U : Upd da (.lst (txts ds)) (.lst (txts (if ign = 0 then ds ++ [u] else ds))) σ σ') (hz : ds.length ≤ 1000)
    (hQ : ∀ s', Sat C σ' s' → Q .none s') : wpAny (model prog w) A (call (.ref 146) [.ref x, .str u t]) Q E s := by
  refine' callP (m := [(Str.ofString "data", .str u 0), (Str.ofString "self", .ref x)]) S R.room (ho := ?k1) (hcd := ?k2) (hbind := ?k3) (hloc := ?k4) (hm := ?k0) (h := ?k5) ?k6 ?k7 ?k8 ?k9
  case k1 => rw [hK]; exact lookup_KK rfl rfl
  case k2 => wtm_at "r_k"
  case k3 => kernel_rfl
  case k4 => kernel_rfl
  case k0 => exact rfl
  case k6 => rfl
  case k7 => rfl
  case k8 => rfl
  case k9 => decide
  intro L s₁ S₁
  unfold wrF at hd
  wtm_at "r_go"
  by_cases hi : ign = 0
  · have U' : Upd da (.lst (txts ds)) (.lst (txts ds ++ [.str u 0])) σ σ' := by
      rw [if_pos hi, show txts (ds ++ [u]) = txts ds ++ [.str u 0] from List.map_append] at U; exact U
    have hda := U'.mem
    refine ifT (by rw [hi]; rfl) ?_
    wtm_at "r_go"
    exact hQ _ (Sat.sub (by wtm_at "r_sat") (List.sublist_cons_self _ _))
  · rw [if_neg hi] at U
    have := U.same S.nd
    subst this
    refine ifF (by simpa using hi) ?_
    wtm_at "r_go"
    exact hQ _ (Sat.sub (by wtm_at "r_sat") (List.sublist_cons_self _ _))
end
set_option maxHeartbeats 1000000
section
variable {prog : Program} {w : World} {A : Around} {E : Value → Shared → Prop} {C : Cx} {σ σ' σ'' : Led} {s : Shared} {Q : Value → Shared → Prop} {x d wa wl da et de ns pm ps a : Addr} {seen dn : Bool} {ign : Int} {ds ws : List Str} {u : Str} {t : Tok} {env : Env}
theorem truthyT {x : Str} {Q : Bool → Shared → Prop} (S : Sat C σ s) (hz : x.length ≤ 1000000) (h : ∀ s', Sat C σ s' → Q (!(x.length == 0)) s') : wpAny (model prog w) A (truthy (.str x t)) Q E s := by
  refine P.truthy_str (by wtm_at "om") ?_
  have : ((x.length : Int) != 0) = !(x.length == 0) := by
    cases x.length <;> rfl
  rw [this]
  exact h _ (S.tok _)
theorem callWith_Kb {id : String} {self : Value} {pos : Pos} {first : List Value} {e : Expr} {rest : List Expr} {Q : Value → Shared → Prop} (_S : Sat C σ s) (hk : C.K.lookup a = some (bndO id self))
    (h : wpAny (model prog w) A (spliced (backTo pos (starEach (e :: rest) env))) (fun vs s₁ => ∃ σ', Sat C σ' s₁ ∧ wpAny (model prog w) A (call (.ref a) (first ++ vs)) Q E s₁) E s)
    (he : starEach (e :: rest) env = (false, eval e env) :: starEach rest env := by rfl) (hplain : (backTo pos (starEach rest env)).any (·.1) = false := by rfl) :
    wpAny (model prog w) A (callWith pos (.ref a) first (backTo pos (starEach (e :: rest) env)) []) Q E s := by
  rw [he] at h ⊢
  refine callWith_of (P := fun h => h.get? a = some (bndO id self)) (by show ((false || (backTo pos (starEach rest env)).any (·.1)) || false) = false; rw [hplain]; rfl) (fun h hp => ⟨.machine, .inr (.inl rfl), (Looks.ld (part := none) hp).andThen .now⟩) (evalArgs_plain (wpAny_mono h (fun vs s₁ h₁ => ?_) fun _ _ e => e))
  obtain ⟨σ', S', h'⟩ := h₁
  exact ⟨S'.kin _ _ hk, h'⟩
theorem wr_flush {r : Str} (hK : C.K = KK w.params) (S : Sat C σ s) (R : Rm 4 A) (hx : (x, .ins 199 d) ∈ σ) (hd : (d, .idc (wrF wa da et de ns pm ps true dn ign)) ∈ σ) (hw : (wa, .raw (bndO "list.append" (.ref wl))) ∈ σ)
    (U : Upd da (.lst (txts ds)) (.lst []) σ σ') (U2 : Upd wl (.lst (txts ws)) (.lst (txts ws ++ [.str (escC (Builtin.Str.glued Str.empty ds)) 0])) σ' σ'') (hx' : (x, .ins 199 d) ∈ σ') (hd' : (d, .idc (wrF wa da et de ns pm ps true dn ign)) ∈ σ') (hw' : (wa, .raw (bndO "list.append" (.ref wl))) ∈ σ')
    (hr : Builtin.Str.glued Str.empty ds = r) (hr0 : (r.length == 0) = false) (hz : ds.length ≤ 1000) (hz1 : ds.foldl (fun n p => n + p.length + Str.empty.length) 0 ≤ 1000000) (hzw : ws.length ≤ 1000)
    (h1 : short r) (h2 : short (esc1 r (Str.ofString "&") (Str.ofString "&amp;"))) (h3 : short (esc1 (esc1 r (Str.ofString "&") (Str.ofString "&amp;")) (Str.ofString "<") (Str.ofString "&lt;")))
    (h4 : short (esc1 (esc1 (esc1 r (Str.ofString "&") (Str.ofString "&amp;")) (Str.ofString "<") (Str.ofString "&lt;")) (Str.ofString ">") (Str.ofString "&gt;")))
    (hQ : ∀ s', Sat C σ'' s' → Q .none s') : wpAny (model prog w) A (call (.ref 155) [.ref x]) Q E s := by
  refine' callFn (args := ⟨[.ref x], []⟩) (binds := [(Str.ofString "self", .ref x), (Str.ofString "_join_text", .ref 147)]) S R.room (ho := ?k1) (hcd := ?k2) (hbind := ?k3) (hloc := ?k4) (h := ?k5) ?k6 ?k7 ?k8 ?k9
  case k1 => rw [hK]; exact lookup_KK rfl rfl
  case k2 => wtm_at "r_k"
  case k3 => exact kp_binds (K := KK w.params) (hK ▸ S.kin) fun S => by kernel_rfl!
  case k4 => exact locAll rfl
  case k6 => rfl
  case k7 => rfl
  case k8 => rfl
  case k9 => decide
  intro L s₁ S₁
  dsimp only [List.reverse_cons, List.reverse_nil, List.nil_append, List.cons_append, List.map_cons, List.map_nil, er] at S₁
  unfold wrF at hd hd'
  have hda := U.mem
  wtm_at "r_go"
  refine callWith_Kb (by wtm_at "r_sat") (id := "str.join") (by rw [hK]; exact lookup_KK rfl rfl) ?_
  wtm_at "r_go"
  refine ⟨_, by wtm_at "r_sat", ?_⟩
  have hlen : (Builtin.Str.glued Str.empty ds).length ≤ 1000000 := by rw [hr]; unfold short at h1; wtm_at "om"
  refine callJoinB (by wtm_at "r_sat") (Sat.kin (by wtm_at "r_sat") _ _ (by rw [hK]; exact lookup_KK rfl rfl)) (ys := ds) (by wtm_at "r_mem") hz1 hlen fun t₂ s₂ S₂ => ?_
  rw [show Builtin.Str.glued _ ds = r from hr]
  wtm_at "r_go"
  refine wpAny_Delete (delAll (C := C) ?_)
  wtm_at "r_go"
  refine ⟨da, _, _, _, rfl, by wtm_at "r_sat", by wtm_at "r_upd", by wtm_at "r_le", fun s₃ S₃ => ?_⟩
  wtm_at "r_go"
  refine truthyT (by wtm_at "r_sat") (by unfold short at h1; wtm_at "om") fun s₄ S₄ => ?_
  refine ifT (by rw [hr0]; rfl) ?_
  wtm_at "r_go"
  refine esc_cdata hK (by wtm_at "r_sat") (Rm.deeper (R.down) _) h1 h2 h3 h4 fun t₅ s₅ S₅ => ?_
  wtm_at "r_go"
  subst hr
  have hwl := U2.mem
  refine callAppB (l := wl) (xs := txts ws) (by wtm_at "r_sat") (by wtm_at "r_mem") (by wtm_at "r_upd") (by wtm_at "r_le") fun s₆ S₆ => ?_
  wtm_at "r_go"
  exact hQ _ (S₆.sub (List.sublist_cons_self _ _))
end
set_option maxHeartbeats 1000000
section
variable {prog : Program} {w : World} {A : Around} {E : Value → Shared → Prop} {C : Cx} {σ σ' σ'' : Led} {s : Shared} {Q : Value → Shared → Prop} {x y : Str} {t u : Tok} {env : Env} {T : Addr} {xs : List Value}
theorem sliceNS {value slice : Expr} {j : Int} {uj : Tok} (S : Sat C σ s) (hx : x.length ≤ 1000000) (h : ∀ t s', Sat C σ s' → Q (.str (Txt.slice x none (some j)) t) s')
    (hs : subscripted slice false (.str x t) (.ref s.heap.objs.size) = operate [.ref s.heap.objs.size, .str x t] (getItem (.str x t) (.ref s.heap.objs.size)) := by with_unfolding_all rfl)
    (ht : ∀ r, letTemporaryGo value (.str x t) r = pure () := by intro _; with_unfolding_all rfl) :
    wpAny (model prog w) A (subscriptTail value slice (.str x t) (.ref s.heap.objs.size)) Q E { s with heap := s.heap.push { cls := .type "slice", data := .fields #[.none, .int j uj, .none] } } := by
  refine withTk (tail_of_ItemOn (SBH.sliceItem_ns (P := fun h => ∀ tk, 0 < tk → Sat C σ { s with heap := h, toks := tk }) (fun h ob hp tk htk => ?_) (fun tk htk => S.tok tk htk) (fun h' t' k hp htk => h t' _ (hp k htk)) (by rw [sizeLine_eq]; wtm_at "om")) hs ht) S.tk
  exact (hp tk htk).push0 ob tk htk
theorem Sat.grown (S : Sat C σ s) {h' : Heap} (k : ∀ b o, s.heap.get? b = some o → h'.get? b = some o) : Sat C σ { s with heap := h' } := by
  refine ⟨S.old.step_keeps k, ?_, fun q hq => ?_, S.low, S.nd, S.os, S.gens, S.gl, S.tk, fun q hq => (S.lam q hq).step (fun o e => k _ o e) (fun b o _ e => k b o e) fun c _ hn => hn⟩
  · obtain ⟨mc, ⟨oc, es, ep, hc, _⟩, _⟩ := C.lim
    exact (k _ _ (S.stat.trans hc)).trans hc.symm
  · obtain ⟨x, hx, h⟩ := S.led q hq; exact ⟨x, k _ _ hx, h⟩
theorem two_of {α : Type} {l : List α} (h : l.length = 2) : ∃ a b, l = [a, b] := by
  cases l with
  | nil => cases h
  | cons a r => cases r with
    | nil => simp at h
    | cons b q => cases q with
      | nil => exact ⟨a, b, rfl⟩
      | cons _ _ => simp at h
theorem assignT2 {e₁ e₂ : Expr} {k : Nat} {pos : Pos} {p₁ p₂ : Value} {Q : Unit → Shared → Prop} (hh : A.handled = none) (S : Sat C σ s) (hT : (T, .tup [p₁, p₂]) ∈ σ)
    (he : (assignEach [e₁, e₂] env).map (·.2) = [assign e₁ env, assign e₂ env]) (hst : (assignEach [e₁, e₂] env).findIdx? (·.1) = none)
    (h : ∀ s', Sat C σ s' → Vs p₁ (fun v₁ => Vs p₂ (fun v₂ => wpAny (model prog w) A (assign e₁ env v₁) (fun _ s₁ => wpAny (model prog w) A (assign e₂ env v₂) Q E s₁) E s'))) :
    wpAny (model prog w) A (assign (.Tuple [e₁, e₂] k pos) env (.ref T)) Q E s := by
  obtain ⟨o, ho, its, n, rfl, e⟩ := S.get hT
  have hsz : its.size = 2 := by
    have := congrArg List.length e
    rw [List.length_map, Array.length_toList] at this; exact this
  obtain ⟨v₁, v₂, rfl⟩ : ∃ v₁ v₂, its = #[v₁, v₂] := by
    obtain ⟨l⟩ := its
    obtain ⟨a, b, rfl⟩ := two_of (l := l) hsz
    exact ⟨a, b, rfl⟩
  have e1 : er v₁ = p₁ := by injection e
  have e2 : er v₂ = p₂ := by injection e with _ e; injection e
  have hl : (assignEach [e₁, e₂] env).length = 2 := by rw [← List.length_map (f := (·.2)), he]; rfl
  refine wpAny_assign_Tuple hh ⟨_, ho, rfl, n, rfl⟩ hl hst fun h' hx => ?_
  rw [he]
  have S' := S.grown (h' := h') fun b o e => hx b o (Nat.ne_of_lt (Heap.lt_size e)) e
  have z := ((h _ S').get e1).get e2
  refine wpAny_assignInOrder_more (wpAny_mono z (fun _ s₁ h₁ => wpAny_assignInOrder_more (wpAny_mono h₁ (fun _ s₂ h₂ => wpAny_assignInOrder_none h₂) fun _ _ e => e)) fun _ _ e => e)
end
set_option maxHeartbeats 1000000
section
variable {prog : Program} {w : World} {A : Around} {E : Value → Shared → Prop} {C : Cx} {σ σ' σ'' : Led} {s : Shared} {Q : Value → Shared → Prop} {x d wa wl da et de ns pm ps a dl tt : Addr} {seen dn : Bool} {ign : Int} {ds ws : List Str} {u : Str} {t : Tok} {env : Env} {nl : List Addr} {tag : Str}
noncomputable def decl (dl : Addr) (nl : List Addr) : List Value := .ref dl :: nl.map .ref
noncomputable def cont (dl tt : Addr) (v : Value) : List Value := match v with | .ref a => if a = dl then [.ref tt] else [] | _ => []
theorem decl_flat {dl tt : Addr} {nl : List Addr} (h : dl ∉ nl) : (decl dl nl).reverse.flatMap (cont dl tt) = [.ref tt] := by
  unfold decl
  rw [List.reverse_cons, List.flatMap_append]
  have : (nl.map Value.ref).reverse.flatMap (cont dl tt) = [] := by
    rw [List.flatMap_eq_nil_iff]
    intro v hv
    obtain ⟨n, hn, rfl⟩ := List.mem_map.mp (List.mem_reverse.mp hv)
    exact if_neg fun (e : n = dl) => h (e ▸ hn)
  rw [this, List.nil_append, List.flatMap_cons, List.flatMap_nil, List.append_nil]
  exact if_pos rfl
theorem cont_le {dl tt : Addr} (v : Value) : (cont dl tt v).length ≤ 1000000 := by
  unfold cont
  split
  · split <;> exact Nat.le_of_ble_eq_true rfl
  · exact Nat.zero_le _
theorem gb_of {dl tt : Addr} {nl : List Addr} {τ : Led} {v : Value} (h1 : (dl, .lst [.ref tt]) ∈ τ) (h2 : ∀ n ∈ nl, (n, .lst []) ∈ τ) (hv : v ∈ decl dl nl) : ∃ a, v = .ref a ∧ (a, .lst (cont dl tt v)) ∈ τ := by
  rcases List.mem_cons.mp hv with rfl | hv
  · refine ⟨dl, rfl, ?_⟩
    rw [show cont dl tt (.ref dl) = [.ref tt] from if_pos rfl]; exact h1
  · obtain ⟨n, hn, rfl⟩ := List.mem_map.mp hv
    refine ⟨n, rfl, ?_⟩
    by_cases e : n = dl
    · subst e; rw [show cont n tt (.ref n) = [.ref tt] from if_pos rfl]; exact h1
    · rw [show cont dl tt (.ref n) = [] from if_neg e]; exact h2 n hn
theorem iterG {g : Nat} (S : Sat C σ s) (ha : (a, gob g) ∈ σ) (h : Q (.ref a) s) : wpAny (model prog w) A (pyIter (.ref a)) Q E s := by
  obtain ⟨o, ho, nm, qn, h1, h2, h3⟩ := S.get ha
  exact wpAny_pyIter_gen ⟨o, nm, qn, ho, h1, h2, h3⟩ h
theorem wr_qnameC {R' : Result → Shared → Prop} (hK : C.K = KK w.params) (S : Sat C σ s) (R : Rm 4 A) (hx : (x, .ins 199 d) ∈ σ) (hd : (d, .idc (wrF wa da et de ns pm ps seen dn ign)) ∈ σ) (hde : (de, .lst (decl dl nl)) ∈ σ) (hdl : (dl, .lst [.ref tt]) ∈ σ) (htt : (tt, .tup [.str xmlU 0, .str xmlP 0]) ∈ σ)
    (hnl : ∀ n ∈ nl, (n, .lst []) ∈ σ) (hnd : dl ∉ nl) (htag : (Txt.slice tag none (some 1)).cps.toList ≠ (Str.ofString "{").cps.toList) (hz : tag.length ≤ 1000) (hzn : nl.length ≤ 1000)
    (hQ : ∀ T s', Sat C ((T, .tup [.str tag 0, .str tag 0, .str Str.empty 0]) :: σ) s' → R' (.ok (.ret (.ref T))) s') : codeAny (model prog w) A (.call (.ref 139) ⟨[.ref x, .str tag t], []⟩) R' s := by
  refine' callFnC (args := ⟨[.ref x, .str tag t], []⟩) (binds := [(Str.ofString "self", .ref x), (Str.ofString "qname", .str tag t), (Str.ofString "uri", .none)]) S R.room (ho := ?k1) (hcd := ?k2) (hbind := ?k3) (hloc := ?k4) (h := ?k5) ?k6 ?k7 ?k8 ?k9
  case k1 => rw [hK]; exact lookup_KK rfl rfl
  case k2 => wtm_at "r_k"
  case k3 => exact kp_binds (K := KK w.params) (hK ▸ S.kin) fun S => by kernel_rfl!
  case k4 => exact locAll rfl
  case k6 => rfl
  case k7 => rfl
  case k8 => rfl
  case k9 => decide
  intro L s₁ S₁
  dsimp only [List.reverse_cons, List.reverse_nil, List.nil_append, List.cons_append, List.map_cons, List.map_nil, er] at S₁
  unfold wrF at hd
  wtm_at "r_go"
  refine wpAny_Assign_stores ?_ rfl rfl
  wtm_at "r_go"
  refine wpAny_Slice ?_
  rw [evalPart_none]
  refine wpAny_pure ?_
  rw [evalPart_some]
  wtm_at "r_go"
  refine wpAny_pure ?_
  refine sliceNS (by wtm_at "r_sat") (by wtm_at "om") fun t₂ s₂ S₂ => ?_
  wtm_at "r_go"
  refine ifF (beq_eq_false_iff_ne.mpr htag) ?_
  wtm_at "r_go"
  show wpAny _ _ (assign _ _ _) _ _ _
  refine assignT2 R.hand (by wtm_at "r_sat") (by wtm_at "r_mem") rfl rfl fun s₃ S₃ => ?_
  dsimp only [Vs, er]
  intro t₃ t₄
  with_reducible refine wpAny_assign_Name ?_
  wtm_at "r_go"
  with_reducible refine wpAny_assign_Name ?_
  wtm_at "r_go"
  refine newS0 (by wtm_at "r_sat") fun ps' s₄ S₄ => ?_
  wtm_at "r_go"
  refine callGen (args := ⟨[.ref x, .ref de], []⟩) (binds := [(Str.ofString "self", .ref x), (Str.ofString "ns_stack", .ref de), (Str.ofString "_reversed", .type "reversed")]) (by wtm_at "r_sat") (Rm.room (Rm.deeper (R.down) _)) (by rw [hK]; exact lookup_KK rfl rfl) (by wtm_at "r_k")
    (kp_binds (K := KK w.params) (by rw [← hK]; exact Sat.kin (by wtm_at "r_sat")) fun S => by kernel_rfl!) (locAll rfl) fun LG ag g s₅ hf S₅ => ?_
  have S₆ := S₅.perm (σ' := (LG, .ns [(Str.ofString "_reversed", .type "reversed"), (Str.ofString "ns_stack", .ref de), (Str.ofString "self", .ref x)]) :: (ag, gob g) :: _) (List.Perm.swap _ _ _)
  refine iterG (by wtm_at "r_sat") (a := ag) (g := g) (by wtm_at "r_mem") ?_
  have S₇ : Sat (C.withG g _) ((LG, .ns [(Str.ofString "_reversed", .type "reversed"), (Str.ofString "ns_stack", .ref de), (Str.ofString "self", .ref x)]) :: (ag, gob g) :: (ps', stp prog w (fun _ => false) 0) ::
    (L, .ns [(Str.ofString "prefixes_seen", .ref ps'), (Str.ofString "tag", .str tag 0), (Str.ofString "uri", .str Str.empty 0), (Str.ofString "uri", .none), (Str.ofString "qname", .str tag 0), (Str.ofString "self", .ref x)]) :: σ) s₅ := Sat.sub S₆ (by wtm_at "r_sub")
  clear S₆ S₅ S₄
  refine' forGen (τ := (ps', stp prog w (fun _ => false) 0) :: (L, .ns [(Str.ofString "prefixes_seen", .ref ps'), (Str.ofString "tag", .str tag 0), (Str.ofString "uri", .str Str.empty 0), (Str.ofString "uri", .none), (Str.ofString "qname", .str tag 0), (Str.ofString "self", .ref x)]) :: σ)
    (go := gob g) (need := fun _ τ => (de, .lst (decl dl nl)) ∈ τ ∧ (dl, .lst [.ref tt]) ∈ τ ∧ ∀ n ∈ nl, (n, .lst []) ∈ τ) (xs := (decl dl nl).reverse.flatMap (cont dl tt)) (own := [(LG, .ns [(Str.ofString "_reversed", .type "reversed"), (Str.ofString "ns_stack", .ref de), (Str.ofString "self", .ref x)])])
    (fun o h => h) R.hand (Rm.room (Rm.deeper (R.down) _)) hf ?G
    (fun r τ => ∃ m P n, τ = (ps', stp prog w P n) :: (L, .ns m) :: σ ∧ (r = [.ref tt] ∨ r = []) ∧ P Str.empty = false ∧ n + r.length ≤ 1 ∧ m.lookup (Str.ofString "uri") = some (.str Str.empty 0) ∧ m.lookup (Str.ofString "tag") = some (.str tag 0) ∧ m.lookup (Str.ofString "prefixes_seen") = some (.ref ps') ∧ m.lookup (Str.ofString "self") = some (.ref x))
    S₇ ?h0 ?hn ?turn ?fin
  case G =>
    show Emits prog w _ _ g _ _ _ (denote table _) []
    refine' gen_func (env := envX (Str.ofString "C14NWriterTarget._iter_namespaces") _ LG 124 _ _) (l := de) (xs := decl dl nl) (cont dl tt) ?ga ?gb ?gc ?gh ?g1 ?g2 ?g3 ?g4 ?g5 ?g6 ?g7 ?g8 ?g9 ?g10 ?g11
    case gh => exact R.hand
    case g1 => exact rfl
    case g2 => exact rfl
    case g3 => exact rfl
    case g4 => decide
    case g5 => exact rfl
    case g6 => exact rfl
    case g7 => decide
    case g8 => exact rfl
    case g9 => exact rfl
    case g10 => decide
    case g11 => exact fun _ => rfl
    case ga => exact fun C τ h => h.1
    case gb => intro C τ h v hv; exact gb_of h.2.1 h.2.2 hv
    case gc => exact cont_le
  case h0 => exact ⟨_, _, 0, rfl, .inl (decl_flat hnd), rfl, by rw [decl_flat hnd]; exact Nat.le_refl _, rfl, rfl, rfl, rfl⟩
  case hn =>
    rintro r τ ⟨m, P, n, rfl, _⟩
    exact ⟨by wtm_at "r_mem", by wtm_at "r_mem", fun n hn => .tail _ (.tail _ (.tail _ (hnl n hn)))⟩
  case turn =>
    rintro gs' own' v r τ s₈ ⟨m, P, n, rfl, hr, hP, hn', l1, l2, l3, l4⟩ S₈
    have hv : er v = .ref tt ∧ r = [] := by
      rcases hr with hr | hr
      · injection hr with e1 e2; exact ⟨e1, e2⟩
      · cases hr
    obtain ⟨hv, rfl⟩ := hv
    have hv : v = .ref tt := by cases v <;> simp only [er] at hv <;> cases hv; rfl
    subst hv
    dsimp only [List.cons_append] at S₈
    have htt' : (tt, PO.tup [.str xmlU 0, .str xmlP 0]) ∈ σ ++ own' := List.mem_append_left _ htt
    have hK' : (C.withG g gs').K = KK w.params := hK
    refine assignT2 R.hand S₈ (by wtm_at "r_mem") rfl rfl fun s₉ S₉ => ?_
    dsimp only [Vs, xmlU, xmlP]
    intro t₅ t₆
    with_reducible refine wpAny_assign_Name ?_
    wtm_at "r_go"
    with_reducible refine wpAny_assign_Name ?_
    wtm_at "r_go"
    refine gmS (by wtm_at "r_sat") (a := ps') (P := P) (n := n) (by wtm_at "r_mem") (by have := hn'; simp only [List.length_cons] at this; wtm_at "om") ?_
    wtm_at "r_go"
    refine addS (by wtm_at "r_sat") (P := P) (n := n) (by simp only [List.length_cons] at hn'; wtm_at "om") (by wtm_at "r_upd") fun s₁₀ S₁₀ => ?_
    wtm_at "r_go"
    refine ⟨_, ⟨_, _, _, rfl, .inr rfl, ?p1, ?p2, ?p3, ?p4, ?p5, ?p6⟩, S₁₀⟩
    case p1 => rw [hP]; rfl
    case p2 => simp only [List.length_cons, List.length_nil] at hn' ⊢; split <;> wtm_at "om"
    case p3 => wtm_at "r_lk"
    case p4 => wtm_at "r_lk"
    case p5 => wtm_at "r_lk"
    case p6 => wtm_at "r_lk"
  case fin =>
    rintro τ s₈ ⟨m, P, n, rfl, hr, hP, hn', l1, l2, l3, l4⟩ S₈
    wtm_at "r_go"
    refine truthyT (by wtm_at "r_sat") (by decide) fun s₉ S₉ => ?_
    wtm_at "r_go"
    refine notInS (by wtm_at "r_sat") (a := ps') (P := P) (n := n) (by wtm_at "r_mem") (by simp only [List.length_nil] at hn'; wtm_at "om") fun s₁₀ S₁₀ => ?_
    rw [show P (Str.ofString "") = false from hP]
    wtm_at "r_go"
    exact hQ _ _ (Sat.sub (by wtm_at "r_sat") (by wtm_at "r_sub"))
end
set_option maxHeartbeats 1000000
noncomputable def T (prog : Program) (w : World) (C : Cx) (A : Around) (σ : Led) {α : Type} (t : Sem α) (Q : α → Led → Prop) (E : Value → Led → Prop) : Prop :=
  ∀ s, Sat C σ s → wpAny (model prog w) A t (fun a s' => ∃ σ', Q a σ' ∧ Sat C σ' s') (fun e s' => ∃ σ', E e σ' ∧ Sat C σ' s') s
noncomputable def TC (prog : Program) (w : World) (C : Cx) (A : Around) (σ : Led) (c : Code) (R : Result → Led → Prop) : Prop :=
  ∀ s, Sat C σ s → codeAny (model prog w) A c (fun r s' => ∃ σ', R r σ' ∧ Sat C σ' s') s
noncomputable abbrev NoE : Value → Led → Prop := fun _ _ => False
noncomputable def Up {α : Type} (Q : α → Led → Prop) (a : α) (σ : Led) : Prop := ∃ σ', σ'.Sublist σ ∧ Q a σ'
section
variable {prog : Program} {w : World} {C : Cx} {A : Around} {σ σ' τ : Led} {α β : Type} {E : Value → Led → Prop} {env : Env} {s : Shared}
theorem T.k {t : Sem α} {Q : α → Led → Prop} {G : α → Shared → Prop} (h : T prog w C A σ t Q E) (S : Sat C σ s) (hF : ∀ a σ' s', Q a σ' → Sat C σ' s' → G a s') :
    wpAny (model prog w) A t G (fun e s' => ∃ σ', E e σ' ∧ Sat C σ' s') s := wpAny_mono (h s S) (fun a s' ⟨σ', h', S'⟩ => hF a σ' s' h' S') fun _ _ e => e
theorem T.kN {t : Sem α} {Q : α → Led → Prop} {G : α → Shared → Prop} {E' : Value → Shared → Prop} (h : T prog w C A σ t Q NoE) (S : Sat C σ s) (hF : ∀ a σ' s', Q a σ' → Sat C σ' s' → G a s') :
    wpAny (model prog w) A t G E' s := wpAny_mono (h s S) (fun a s' ⟨σ', h', S'⟩ => hF a σ' s' h' S') fun _ _ ⟨_, e, _⟩ => e.elim
theorem T.mono {t : Sem α} {Q Q' : α → Led → Prop} {E' : Value → Led → Prop} (h : T prog w C A σ t Q E) (hq : ∀ a σ', Q a σ' → Q' a σ') (he : ∀ e σ', E e σ' → E' e σ') : T prog w C A σ t Q' E' :=
  fun s S => wpAny_mono (h s S) (fun _ _ ⟨σ', a, b⟩ => ⟨σ', hq _ _ a, b⟩) fun _ _ ⟨σ', a, b⟩ => ⟨σ', he _ _ a, b⟩
theorem T.drop {t : Sem α} {Q : α → Led → Prop} (h : T prog w C A σ' t Q E) (hs : σ'.Sublist σ) : T prog w C A σ t Q E := fun s S => h s (S.sub hs)
theorem T.perm {t : Sem α} {Q : α → Led → Prop} (h : T prog w C A σ' t Q E) (hs : σ.Perm σ') : T prog w C A σ t Q E := fun s S => h s (S.perm hs)
theorem T.pure {a : α} {Q : α → Led → Prop} (h : Q a σ) : T prog w C A σ (Pure.pure a : Sem α) Q E := fun _ S => wpAny_pure ⟨_, h, S⟩
theorem T.bind {m : Sem α} {f : α → Sem β} {Q : β → Led → Prop} (h : T prog w C A σ m (fun a σ' => T prog w C A σ' (f a) Q E) E) : T prog w C A σ (m >>= f) Q E :=
  fun _ S => wpAny_bind (h.k S fun _ _ _ h' S' => h' _ S')
theorem T.standAt {p : Pos} {Q : Unit → Led → Prop} (h : Q () σ) : T prog w C A σ (standAt p) Q E := fun _ S => wpAny_standAt ⟨_, h, S⟩
theorem Vs.mono {p : Value} {P P' : Value → Prop} (h : Vs p P) (hp : ∀ v, P v → P' v) : Vs p P' := by
  cases p <;> first | exact fun t => hp _ (h t) | exact hp _ h
theorem Vs.led {p : Value} {Q : Value → Led → Prop} {C : Cx} {σ : Led} {s : Shared} (h : Vs p fun v => Q v σ) (S : Sat C σ s) : Vs p fun v => ∃ σ', Q v σ' ∧ Sat C σ' s := h.mono fun _ hq => ⟨_, hq, S⟩
theorem T_nil {Q : Flow → Led → Prop} (h : Q .next σ) : T prog w C A σ (execs [] env) Q E := fun _ S => wpAny_execs_nil ⟨_, h, S⟩
theorem T_cons {st : Stmt} {rest : List Stmt} {Q : Flow → Led → Prop} (h : T prog w C A σ (exec st env) (fun f σ' => match f with | .next => T prog w C A σ' (execs rest env) Q E | f => Q f σ') E) : T prog w C A σ (execs (st :: rest) env) Q E :=
  fun _ S => wpAny_execs_cons (h.k S fun f _ _ h' S' => by cases f <;> first | exact h' _ S' | exact ⟨_, h', S'⟩)
theorem T_If {test : Expr} {body orelse : List Stmt} {pos : Pos} {Q : Flow → Led → Prop}
    (h : T prog w C A σ (isTrue test env (eval test env)) (fun b σ' => if b = true then T prog w C A σ' (execs body env) Q E else T prog w C A σ' (execs orelse env) Q E) E) : T prog w C A σ (exec (.If test body orelse pos) env) Q E :=
  fun _ S => wpAny_If (h.k S fun b _ _ h' S' => by cases b <;> exact h' _ S')
theorem T_Return {e : Expr} {pos : Pos} {Q : Flow → Led → Prop} (h : T prog w C A σ (eval e env) (fun v => Q (.ret v)) E) : T prog w C A σ (exec (.Return (some e) pos) env) Q E :=
  fun _ S => wpAny_Return_some (h.k S fun _ _ _ h' S' => ⟨_, h', S'⟩)
theorem T_Return0 {pos : Pos} {Q : Flow → Led → Prop} (h : Q (.ret .none) σ) : T prog w C A σ (exec (.Return none pos) env) Q E := fun _ S => wpAny_Return_none ⟨_, h, S⟩
theorem T_AssignN {x : Str} {pos' : Pos} {value : Expr} {pos : Pos} {Q : Flow → Led → Prop} (h : T prog w C A σ (eval value env) (fun v σ₁ => T prog w C A σ₁ (storeName env x v) (fun _ => Q .next) E) E)
    (hs : swapsWith value (some (.Name x pos')) pos.line env = Pure.pure false := by with_unfolding_all rfl) : T prog w C A σ (exec (.Assign [.Name x pos'] value pos) env) Q E :=
  fun _ S => wpAny_Assign_Name (hs := hs) (h.k S fun _ _ _ h' S' => h' _ S')
theorem T_AssignA {o : Expr} {attr : Str} {pos' : Pos} {value : Expr} {pos : Pos} {Q : Flow → Led → Prop}
    (h : T prog w C A σ (eval value env) (fun v σ₁ => T prog w C A σ₁ (eval o env) (fun ov σ₂ => T prog w C A σ₂ (setAttr ov attr v) (fun _ => Q .next) E) E) E)
    (hs : swapsWith value (some (.Attribute o attr pos')) pos.line env = Pure.pure false := by with_unfolding_all rfl) : T prog w C A σ (exec (.Assign [.Attribute o attr pos'] value pos) env) Q E :=
  fun _ S => plainObj_wpAny_Assign_Attribute (h.k S fun _ _ _ h' S' => h'.k S' fun _ _ _ h'' S'' => h'' _ S'') hs
theorem T_AugA {o value : Expr} {attr : Str} {tpos pos : Pos} {op : Operator} {Q : Flow → Led → Prop}
    (h : T prog w C A σ (eval o env) (fun ov σ₁ => T prog w C A σ₁ (getAttr ov attr true) (fun old σ₂ => T prog w C A σ₂ (eval value env) (fun v σ₃ => T prog w C A σ₃ (inplaceOp op old v) (fun new σ₄ => T prog w C A σ₄ (setAttr ov attr new) (fun _ => Q .next) E) E) E) E) E) :
    T prog w C A σ (exec (.AugAssign (.Attribute o attr tpos) op value pos) env) Q E :=
  fun _ S => wpAny_AugAssign_AttributeAny (h.k S fun _ _ _ h S => h.k S fun _ _ _ h S => h.k S fun _ _ _ h S => h.k S fun _ _ _ h S => h _ S)
theorem T_Expr {e : Expr} {pos : Pos} {Q : Flow → Led → Prop} (h : T prog w C A σ (eval e env) (fun _ => Q .next) E) (hi : interactive env = false := by with_unfolding_all rfl) (hs : swapsWith e none pos.line env = Pure.pure false := by with_unfolding_all rfl) :
    T prog w C A σ (exec (.Expr e pos) env) Q E := fun _ S => wpAny_Expr_any (h.k S fun _ _ _ h' S' => ⟨_, h', S'⟩) hi hs
theorem T_For {target iter : Expr} {body orelse : List Stmt} {pos : Pos} {Q : Flow → Led → Prop}
    (h : T prog w C A σ (eval iter env) (fun x σ₁ => T prog w C A σ₁ (pyIter x) (fun it σ₂ => TC prog w C A σ₂ (.forLoop target it body orelse env) (fun r σ' => match r with | .ok f => Q f σ' | .error _ => False)) E) E)
    (hf : ∀ x, foldedSetIterable iter env x = Pure.pure x := by intro _; rfl) : T prog w C A σ (exec (.For target iter body orelse pos) env) Q E :=
  fun _ S => wpAny_For (h.k S fun _ _ _ h S => h.k S fun _ _ _ h S => codeAny_mono (h _ S) fun r s' ⟨σ', hr, S'⟩ => by
    cases r with
    | ok f => exact ⟨σ', hr, S'⟩
    | error e => exact hr.elim) hf
theorem T_AssignS {targets : List Expr} {value : Expr} {pos : Pos} {Q : Flow → Led → Prop}
    (h : T prog w C A σ (eval value env) (fun v σ₁ => T prog w C A σ₁ (assignAll v ((assignEach targets env).map (·.2))) (fun _ => Q .next) E) E)
    (h1 : swapsWithSole targets value pos.line env = Pure.pure false) (h2 : swappedStores targets value env = Pure.pure none) : T prog w C A σ (exec (.Assign targets value pos) env) Q E :=
  fun _ S => wpAny_Assign_stores (h.k S fun _ _ _ h S => h.k S fun _ _ _ h S => ⟨_, h, S⟩) h1 h2
theorem T_tCmp {l r : Expr} {op : CmpOp} {pos : Pos} {whole : Sem Value} {Q : Bool → Led → Prop}
    (h : T prog w C A σ (eval l env) (fun a σ₁ => T prog w C A σ₁ (eval r env) (fun b σ₂ => T prog w C A σ₂ (compareOp op a b) (fun c σ₃ => T prog w C A σ₃ (truthy c) Q E) E) E) E)
    (hb : behindInMarks op r = false := by with_unfolding_all rfl) : T prog w C A σ (isTrue (.Compare l [op] [r] pos) env whole) Q E :=
  fun _ S => wpAny_isTrue_Compare1 (h.k S fun _ _ _ h S => h.k S fun _ _ _ h S => h.k S fun _ _ _ h S => h _ S) hb
theorem T_tAnd {x : Expr} {rest : List Expr} {pos : Pos} {whole : Sem Value} {Q : Bool → Led → Prop}
    (h : T prog w C A σ (isTrue x env (eval x env)) (fun c σ' => if c = true then T prog w C A σ' (isTrue (.BoolOp .And rest pos) env whole) Q E else Q false σ') E) : T prog w C A σ (isTrue (.BoolOp .And (x :: rest) pos) env whole) Q E :=
  fun _ S => isTrue_and (h.k S fun c _ _ h S => by cases c <;> first | exact ⟨_, h, S⟩ | exact h _ S)
theorem T_tAnd0 {pos : Pos} {whole : Sem Value} {Q : Bool → Led → Prop} (h : Q true σ) : T prog w C A σ (isTrue (.BoolOp .And [] pos) env whole) Q E := fun _ S => isTrue_and_nil ⟨_, h, S⟩
theorem T_tOr {x : Expr} {rest : List Expr} {pos : Pos} {whole : Sem Value} {Q : Bool → Led → Prop}
    (h : T prog w C A σ (isTrue x env (eval x env)) (fun c σ' => if c = true then Q true σ' else T prog w C A σ' (isTrue (.BoolOp .Or rest pos) env whole) Q E) E) : T prog w C A σ (isTrue (.BoolOp .Or (x :: rest) pos) env whole) Q E :=
  fun _ S => isTrue_or (h.k S fun c _ _ h S => by cases c <;> first | exact h _ S | exact ⟨_, h, S⟩)
theorem T_tOr0 {pos : Pos} {whole : Sem Value} {Q : Bool → Led → Prop} (h : Q false σ) : T prog w C A σ (isTrue (.BoolOp .Or [] pos) env whole) Q E := fun _ S => isTrue_or_nil ⟨_, h, S⟩
theorem T_tV {e : Expr} {whole : Sem Value} {Q : Bool → Led → Prop} (h : T prog w C A σ whole (fun v σ₁ => T prog w C A σ₁ (truthy v) Q E) E)
    (he : isTrue e env whole = (do let v ← whole; PySem.standAt e.pos; PySem.holding [v] (truthy v)) := by with_unfolding_all rfl) : T prog w C A σ (isTrue e env whole) Q E := fun _ S => isTrue_plain (h.k S fun _ _ _ h S => h _ S) he
theorem T_Cmp {l r : Expr} {op : CmpOp} {pos : Pos} {Q : Value → Led → Prop} (h : T prog w C A σ (eval l env) (fun a σ₁ => T prog w C A σ₁ (eval r env) (fun b σ₂ => T prog w C A σ₂ (compareOp op a b) Q E) E) E)
    (hb : behindInMarks op r = false := by with_unfolding_all rfl) : T prog w C A σ (eval (.Compare l [op] [r] pos) env) Q E := fun _ S => wpAny_Compare1 (h.k S fun _ _ _ h S => h.k S fun _ _ _ h S => h _ S) hb
theorem T_cNone {k : Nat} {pos : Pos} {Q : Value → Led → Prop} (h : Q .none σ) : T prog w C A σ (eval (.Constant .none k pos) env) Q E := fun _ S => wpAny_Constant_none ⟨_, h, S⟩
theorem T_cBool {b : Bool} {k : Nat} {pos : Pos} {Q : Value → Led → Prop} (h : Q (.bool b) σ) : T prog w C A σ (eval (.Constant (.bool b) k pos) env) Q E := fun _ S => wpAny_Constant_bool ⟨_, h, S⟩
theorem T_cStr {x : Str} {k : Nat} {pos : Pos} {Q : Value → Led → Prop} (h : ∀ t, Q (.str x t) σ) : T prog w C A σ (eval (.Constant (.str x) k pos) env) Q E := fun _ S => cstr S fun t _ S' => ⟨_, h t, S'⟩
theorem T_cInt {i : Int} {k : Nat} {pos : Pos} {Q : Value → Led → Prop} (h : ∀ t, Q (.int i t) σ) : T prog w C A σ (eval (.Constant (.int i) k pos) env) Q E := fun _ S => cint S fun t _ S' => ⟨_, h t, S'⟩
theorem T_Name {x : Str} {pos : Pos} {Q : Value → Led → Prop} (h : T prog w C A σ (loadName env x) Q E) (hd : (x == ("__debug__" : Str)) = false := by with_unfolding_all rfl) : T prog w C A σ (eval (.Name x pos) env) Q E := fun _ S => wpAny_Name (h _ S) hd
theorem T_List {elts : List Expr} {pos : Pos} {Q : Value → Led → Prop} (h : T prog w C A σ (spliced (backTo pos (starEach elts env))) (fun vs σ' => vs.length ≤ 1000 ∧ ∀ D, Q (.ref D) ((D, .lst (vs.map er)) :: σ')) E) : T prog w C A σ (eval (.List elts pos) env) Q E :=
  fun _ S => evL S (h.k S fun _ _ _ h S => ⟨_, S, h.1, fun D _ S' => ⟨_, h.2 D, S'⟩⟩)
theorem T_Tuple {elts : List Expr} {k : Nat} {pos : Pos} {Q : Value → Led → Prop} (h : T prog w C A σ (spliced (backTo pos (starEach elts env))) (fun vs σ' => vs.length ≤ 1000 ∧ ∀ D, Q (.ref D) ((D, .tup (vs.map er)) :: σ')) E) : T prog w C A σ (eval (.Tuple elts k pos) env) Q E :=
  fun _ S => evT S (h.k S fun _ _ _ h S => ⟨_, S, h.1, fun D _ S' => ⟨_, h.2 D, S'⟩⟩)
theorem T_Dict0 {pos : Pos} {Q : Value → Led → Prop} (h : ∀ D, Q (.ref D) ((D, .raw emptyDict) :: σ)) : T prog w C A σ (eval (.Dict [] [] pos) env) Q E := fun _ S => evD0 S fun D _ S' => ⟨_, h D, S'⟩
theorem T_IfExp {test body orelse : Expr} {pos : Pos} {Q : Value → Led → Prop} (h : T prog w C A σ (isTrue test env (eval test env)) (fun b σ' => if b = true then T prog w C A σ' (eval body env) Q E else T prog w C A σ' (eval orelse env) Q E) E) :
    T prog w C A σ (eval (.IfExp test body orelse pos) env) Q E := fun _ S => wpAny_IfExp (h.k S fun b _ _ h S => by cases b <;> exact h _ S)
theorem T_Bin {l r : Expr} {op : Operator} {pos : Pos} {Q : Value → Led → Prop} (h : T prog w C A σ (eval l env) (fun a σ₁ => T prog w C A σ₁ (eval r env) (fun b σ₂ => T prog w C A σ₂ (binaryOp op a b) Q E) E) E) : T prog w C A σ (eval (.BinOp l op r pos) env) Q E :=
  fun _ S => wpAny_BinOp (h.k S fun _ _ _ h S => h.k S fun _ _ _ h S => h _ S)
theorem T_MCall {o : Expr} {name : Str} {apos pos : Pos} {args : List Expr} {pl : Sem Bool} {Q : Value → Led → Prop}
    (h : T prog w C A σ (eval o env) (fun ov σ₁ => T prog w C A σ₁ (getMethod ov name pl) (fun fx σ₂ => T prog w C A σ₂ (callWith pos fx.1 fx.2 (backTo pos (starEach args env)) []) Q E) E) E)
    (he : eval (.Call (.Attribute o name apos) args [] pos) env = (do
        let ov ← eval o env
        PySem.standAt apos.atName
        let (f, first) ← PySem.holding [ov] (getMethod ov name pl)
        callWith pos f first (backTo pos (starEach args env)) []) := by with_unfolding_all rfl) : T prog w C A σ (eval (.Call (.Attribute o name apos) args [] pos) env) Q E :=
  fun _ S => MethodCall_ (h.k S fun _ _ _ h S => h.k S fun _ _ _ h S => h _ S) he
theorem T_Call {func : Expr} {args : List Expr} {pos : Pos} {Q : Value → Led → Prop} (h : T prog w C A σ (eval func env) (fun f σ₁ => T prog w C A σ₁ (callWith pos f [] (backTo pos (starEach args env)) []) Q E) E)
    (he : eval (.Call func args [] pos) env = (do callWith pos (← eval func env) [] (backTo pos (starEach args env)) (backToKw pos (keywordEach [] env))) := by with_unfolding_all rfl) : T prog w C A σ (eval (.Call func args [] pos) env) Q E :=
  fun _ S => Call_ (h.k S fun _ _ _ h S => h _ S) he
theorem T_Sub {value slice : Expr} {pos : Pos} {Q : Value → Led → Prop} (h : T prog w C A σ (eval value env) (fun o σ₁ => T prog w C A σ₁ (eval slice env) (fun i σ₂ => T prog w C A σ₂ (subscriptTail value slice o i) Q E) E) E) :
    T prog w C A σ (eval (.Subscript value slice pos) env) Q E := fun _ S => Subscript_ (h.k S fun _ _ _ h S => h.k S fun _ _ _ h S => h _ S)
theorem T_Attr {value : Expr} {attr : Str} {pos : Pos} {Q : Value → Led → Prop} (h : T prog w C A σ (eval value env) (fun o σ₁ => T prog w C A σ₁ (getAttr o attr true) Q E) E)
    (he : eval (.Attribute value attr pos) env = (do
        let o ← eval value env
        PySem.standAt pos.atName
        let r ← PySem.holding [o] (getAttr o attr true)
        letTemporaryGo value o r
        Pure.pure r) := by with_unfolding_all rfl) : T prog w C A σ (eval (.Attribute value attr pos) env) Q E := fun _ S => Attribute_any_ (h.k S fun _ _ _ h S => h _ S) he
theorem T_args0 {pos : Pos} {Q : List Value → Led → Prop} (h : Q [] σ) : T prog w C A σ (spliced (backTo pos (starEach [] env))) Q E := fun _ S => wpAny_items_nil ⟨_, h, S⟩
theorem T_args1 {pos : Pos} {e : Expr} {rest : List Expr} {Q : List Value → Led → Prop} (h : T prog w C A σ (eval e env) (fun v σ₁ => T prog w C A σ₁ (spliced (backTo pos (starEach rest env))) (fun vs => Q (v :: vs)) E) E)
    (he : starEach (e :: rest) env = (false, eval e env) :: starEach rest env := by with_unfolding_all rfl) : T prog w C A σ (spliced (backTo pos (starEach (e :: rest) env))) Q E :=
  fun _ S => wpAny_items_cons (h.k S fun _ _ _ h S => h.k S fun _ _ _ h S => ⟨_, h, S⟩) he
theorem T_callB {pos : Pos} {id : String} {first : List Value} {e : Expr} {rest : List Expr} {Q : Value → Led → Prop} (h : T prog w C A σ (spliced (backTo pos (starEach (e :: rest) env))) (fun vs σ₁ => T prog w C A σ₁ (call (.builtin id) (first ++ vs)) Q E) E)
    (he : starEach (e :: rest) env = (false, eval e env) :: starEach rest env := by with_unfolding_all rfl) (hp : (backTo pos (starEach rest env)).any (·.1) = false := by with_unfolding_all rfl) : T prog w C A σ (callWith pos (.builtin id) first (backTo pos (starEach (e :: rest) env)) []) Q E :=
  fun _ S => callWith_method1 (h.k S fun _ _ _ h S => h _ S) he hp
theorem T_callB0 {pos : Pos} {id : String} {first : List Value} {Q : Value → Led → Prop} (h : T prog w C A σ (call (.builtin id) first) Q E) : T prog w C A σ (callWith pos (.builtin id) first (backTo pos (starEach [] env)) []) Q E := fun _ S => callWith_method0 (h _ S)
theorem T_callT {pos : Pos} {id : String} {e : Expr} {rest : List Expr} {Q : Value → Led → Prop} (h : T prog w C A σ (spliced (backTo pos (starEach (e :: rest) env))) (fun vs σ₁ => T prog w C A σ₁ (call (.type id) vs) Q E) E)
    (he : starEach (e :: rest) env = (false, eval e env) :: starEach rest env := by with_unfolding_all rfl) (hp : (backTo pos (starEach rest env)).any (·.1) = false := by with_unfolding_all rfl) : T prog w C A σ (callWith pos (.type id) [] (backTo pos (starEach (e :: rest) env)) []) Q E :=
  fun _ S => PyProof.Rows.callWith_type1 (h.k S fun _ _ _ h S => h _ S) he hp
theorem T_callK {f : Value} {pos : Pos} {first : List Value} {e : Expr} {rest : List Expr} {Q : Value → Led → Prop} (hk : keepIn C.K f = true) (h : T prog w C A σ (spliced (backTo pos (starEach (e :: rest) env))) (fun vs σ₁ => T prog w C A σ₁ (call f (first ++ vs)) Q E) E)
    (he : starEach (e :: rest) env = (false, eval e env) :: starEach rest env := by with_unfolding_all rfl) (hp : (backTo pos (starEach rest env)).any (·.1) = false := by with_unfolding_all rfl) : T prog w C A σ (callWith pos f first (backTo pos (starEach (e :: rest) env)) []) Q E :=
  fun _ S => callWith_K S.kin hk (h.k S fun _ _ _ h S => ⟨S.kin, h _ S⟩) he hp
theorem T_callK0 {f : Value} {pos : Pos} {first : List Value} {Q : Value → Led → Prop} (hk : keepIn C.K f = true) (h : T prog w C A σ (call f (first ++ [])) Q E) : T prog w C A σ (callWith pos f first (backTo pos (starEach [] env)) []) Q E :=
  fun _ S => callWith_K0 S.kin hk (h _ S)
theorem T_callBnd {a : Addr} {id : String} {self : Value} {pos : Pos} {first : List Value} {e : Expr} {rest : List Expr} {Q : Value → Led → Prop} (ha : (a, .raw (bndO id self)) ∈ σ)
    (h : T prog w C A σ (spliced (backTo pos (starEach (e :: rest) env))) (fun vs σ₁ => (a, .raw (bndO id self)) ∈ σ₁ ∧ T prog w C A σ₁ (call (.ref a) (first ++ vs)) Q E) E)
    (he : starEach (e :: rest) env = (false, eval e env) :: starEach rest env := by with_unfolding_all rfl) (hp : (backTo pos (starEach rest env)).any (·.1) = false := by with_unfolding_all rfl) : T prog w C A σ (callWith pos (.ref a) first (backTo pos (starEach (e :: rest) env)) []) Q E :=
  fun _ S => callWith_B S ha (h.k S fun _ _ _ h S => ⟨_, S, h.1, h.2 _ S⟩) he hp
theorem T_ldL {x : Str} {pv : Value} {m : List (Str × Value)} {Q : Value → Led → Prop} (hl : env.kindOf x = some .local) (hk : env.scope.kind = .function) (hm : (env.locals, .ns m) ∈ σ) (hx : m.lookup x = some pv) (h : Vs pv (fun v => Q v σ)) : T prog w C A σ (loadName env x) Q E :=
  fun _ S => ldL S hm hx hk hl (h.led S)
theorem T_ldC {x : Str} {c : Addr} {pv : Value} {Q : Value → Led → Prop} (hl : env.kindOf x = some .cell) (hk : env.scope.kind = .function) (hc : env.cells.lookup x = some c) (hm : (c, .cel (some pv)) ∈ σ) (h : Vs pv (fun v => Q v σ)) : T prog w C A σ (loadName env x) Q E :=
  fun _ S => ldC S hc hm hk hl (h.led S)
theorem T_ldG {x : Str} {v : Value} {Q : Value → Led → Prop} (hx : env.kindOf x = some .globalImplicit) (hk : env.scope.kind = .function) (hg : env.globals = mainGlobals) (e : nsIn C.K mainGlobals x = some (some v)) (h : Q v σ) : T prog w C A σ (loadName env x) Q E :=
  fun _ S => ldG S e hk hx hg ⟨_, h, S⟩
theorem T_ldB {x : Str} {v : Value} {Q : Value → Led → Prop} (hx : env.kindOf x = some .globalImplicit) (hk : env.scope.kind = .function) (hg : env.globals = mainGlobals) (hb : env.builtins = builtinsNs) (e2 : bootBuiltins x = some v) (e : nsIn C.K mainGlobals x = some none) (hn : x ≠ "__name__") (h : Q v σ) :
    T prog w C A σ (loadName env x) Q E := fun _ S => ldB S e e2 hn hk hx hg hb ⟨_, h, S⟩
theorem T_stL {x : Str} {v : Value} {m : List (Str × Value)} {Q : Unit → Led → Prop} (U : Upd env.locals (.ns m) (.ns ((x, er v) :: m)) σ σ') (hl : env.kindOf x = some .local) (hk : env.scope.kind = .function) (h : Q () σ') : T prog w C A σ (storeName env x v) Q E :=
  fun _ S => stL S U hl hk fun _ S' => ⟨_, h, S'⟩
theorem T_stC {x : Str} {v : Value} {c : Addr} {v₀ : Option Value} {Q : Unit → Led → Prop} (hc : env.cells.lookup x = some c) (U : Upd c (.cel v₀) (.cel (some (er v))) σ σ') (hl : env.kindOf x = some .cell) (hk : env.scope.kind = .function) (h : Q () σ') : T prog w C A σ (storeName env x v) Q E :=
  fun _ S => stC S hc U hl hk fun _ S' => ⟨_, h, S'⟩
theorem T_getA {x d Cc : Addr} {name : Str} {pv : Value} {m : List (Str × Value)} {Q : Value → Led → Prop} {expr : Bool} (hm : (x, .ins Cc d) ∈ σ) (hd : (d, .idc m) ∈ σ) (hc : Cls C.K Cc name) (hx : m.lookup name = some pv) (hv : handedIn pv = true) (h : Vs pv (fun v => Q v σ)) :
    T prog w C A σ (getAttr (.ref x) name expr) Q E := fun _ S => getC S hm hd hc hx hv fun _ S' => h.led S'
theorem T_setD {x d Cc : Addr} {name : Str} {v : Value} {m : List (Str × Value)} {Q : Unit → Led → Prop} (hm : (x, .ins Cc d) ∈ σ) (U : Upd d (.idc m) (.idc (repl name (er v) m)) σ σ') (hc : Cls C.K Cc name) (hi : (m.lookup name).isSome = true) (hz : m.length < 1000) (h : Q () σ') :
    T prog w C A σ (setAttr (.ref x) name v) Q E := fun _ S => setD S hm U hc hi hz fun _ S' => ⟨_, h, S'⟩
theorem T_mth {x d Cc f : Addr} {name : Str} {m : List (Str × Value)} {Q : Value × List Value → Led → Prop} {pl : Sem Bool} (hm : (x, .ins Cc d) ∈ σ) (hd : (d, .idc m) ∈ σ) (hc : Meth C.K Cc name f) (hx : m.lookup name = none) (h : Q (.ref f, [.ref x]) σ) :
    T prog w C A σ (getMethod (.ref x) name pl) Q E := fun _ S => mthC S hm hd hc hx ⟨_, h, S⟩
theorem T_mthOwn {x d Cc : Addr} {name : Str} {m : List (Str × Value)} {pv : Value} {Q : Value × List Value → Led → Prop} {pl : Sem Bool} (hm : (x, .ins Cc d) ∈ σ) (hd : (d, .idc m) ∈ σ) (hc : Cls C.K Cc name) (hx : m.lookup name = some pv) (hv : handedIn pv = true) (h : Vs pv (fun v => Q (v, []) σ)) :
    T prog w C A σ (getMethod (.ref x) name pl) Q E := fun _ S => mthOwn S hm hd hc hx hv fun _ S' => h.mono fun _ hq => ⟨_, hq, S'⟩
theorem T_assignN {x : Str} {pos : Pos} {v : Value} {Q : Unit → Led → Prop} (h : T prog w C A σ (storeName env x v) Q E) : T prog w C A σ (assign (.Name x pos) env v) Q E := fun _ S => wpAny_assign_Name (h _ S)
theorem T_assignT2 {T' : Addr} {e₁ e₂ : Expr} {k : Nat} {pos : Pos} {p₁ p₂ : Value} {Q : Unit → Led → Prop} (hh : A.handled = none) (hT : (T', .tup [p₁, p₂]) ∈ σ)
    (he : (assignEach [e₁, e₂] env).map (·.2) = [assign e₁ env, assign e₂ env]) (hst : (assignEach [e₁, e₂] env).findIdx? (·.1) = none)
    (h : Vs p₁ (fun v₁ => Vs p₂ (fun v₂ => T prog w C A σ (assign e₁ env v₁) (fun _ σ₁ => T prog w C A σ₁ (assign e₂ env v₂) Q E) E))) : T prog w C A σ (assign (.Tuple [e₁, e₂] k pos) env (.ref T')) Q E :=
  fun _ S => assignT2 hh S hT he hst fun _ S' => h.mono fun _ h => h.mono fun _ h => h.k S' fun _ _ _ h S => h _ S
theorem T_isN {v : Value} {Q : Value → Led → Prop} (h : Q (.bool (v == .none)) σ) : T prog w C A σ (compareOp .Is v .none) Q E := fun _ S => is_none ⟨_, h, S⟩
theorem T_isNN {v : Value} {Q : Value → Led → Prop} (h : Q (.bool (!(v == .none))) σ) : T prog w C A σ (compareOp .IsNot v .none) Q E := fun _ S => isNot_none ⟨_, h, S⟩
theorem T_neS {x y : Str} {t u : Tok} {Q : Value → Led → Prop} (h : Q (.bool (x.cps.toList != y.cps.toList)) σ) : T prog w C A σ (compareOp .NotEq (.str x t) (.str y u)) Q E := fun _ S => P.ne_str ⟨_, h, S⟩
theorem T_inS {x y : Str} {t u : Tok} {Q : Value → Led → Prop} (h : Q (.bool (Txt.contains x y)) σ) : T prog w C A σ (compareOp .In (.str y u) (.str x t)) Q E := fun _ S => SB.contains ⟨_, h, S⟩
theorem T_trB {b : Bool} {Q : Bool → Led → Prop} (h : Q b σ) : T prog w C A σ (truthy (.bool b)) Q E := fun _ S => wpAny_truthy_bool ⟨_, h, S⟩
theorem T_trN {Q : Bool → Led → Prop} (h : Q false σ) : T prog w C A σ (truthy .none) Q E := fun _ S => truthy_none ⟨_, h, S⟩
theorem T_trI {i : Int} {t : Tok} {Q : Bool → Led → Prop} (h : Q (i != 0) σ) : T prog w C A σ (truthy (.int i t)) Q E := fun _ S => P.truthy_int ⟨_, h, S⟩
theorem T_trL {l : Addr} {xs : List Value} {Q : Bool → Led → Prop} (hl : (l, .lst xs) ∈ σ) (hz : xs.length ≤ 1000000) (h : Q (!xs.isEmpty) σ) : T prog w C A σ (truthy (.ref l)) Q E := fun _ S => truthyL S hl hz fun _ S' => ⟨_, h, S'⟩
end
set_option maxHeartbeats 1000000
noncomputable def retv : Flow → Value | .ret v => v | _ => .none
section
variable {prog : Program} {w : World} {C : Cx} {A : Around} {σ σ' τ : Led} {α β : Type} {E : Value → Led → Prop} {env : Env} {s : Shared}
theorem T_callF {Q : Value → Led → Prop} {f : Addr} {nm qual : Str} {params : Arguments} {body : List Stmt} {scope : Scope} {cl : List (Str × Addr)} {dV kV doc pm cdv ct oc : Value} {an od : Option Addr} {osl : Array (Option Value)} {args : List Value} {kw : List (Str × Value)} {m : List (Str × Value)} (binds : List (Str × Value))
    (hroom : A.depth < recursionLimit) (ho : C.K.lookup f = some ⟨oc, od, .func (fnX nm qual params body scope cl dV kV doc pm an cdv ct), osl⟩) (hcd : codeIn C.K cdv qual = true)
    (hbind : ∀ s, C.K.In s.heap → BindsTo s (fnX nm qual params body scope cl dV kV doc pm an cdv ct) ⟨args, kw⟩ binds) (hloc : (binds.all fun y => scope.names.lookup y.1 == some .local) = true)
    (hm : binds.reverse.map (fun y => (y.1, er y.2)) = m)
    (h : ∀ L, T prog w C (A.deeper (envX qual scope L f cdv cl)) ((L, .ns m) :: σ) (execs body (envX qual scope L f cdv cl)) (fun fl => Up Q (retv fl)) NoE)
    (hco : scope.isCoroutine = false := by rfl) (hgen : scope.isGenerator = false := by rfl) (hk : scope.kind = .function := by rfl) (hcell : ∀ x ∈ scope.names, x.2 ≠ .cell := by decide) :
    T prog w C A σ (call (.ref f) args kw) Q E := by
  subst hm
  intro s S
  refine callFn (args := ⟨args, kw⟩) S hroom ho hcd (hbind s S.kin) (locAll hloc) (fun L s' S' => ?_) hco hgen hk hcell
  refine (h L).kN S' fun fl σ' s' ⟨σ'', hs, hq⟩ S' => ?_
  cases fl <;> exact ⟨σ'', hq, S'.sub hs⟩
theorem bindL_look {ko : Str → Option NameKind} : ∀ (binds : List (Str × Value)) (m : Str → Option Value) (y : Str),
    bindL ko binds m y = ((binds.filter fun x => decide (ko x.1 = some .local)).reverse.lookup y).or (m y)
  | [], m, y => rfl
  | (n, v) :: r, m, y => by
    unfold bindL
    rw [bindL_look r]
    by_cases h : ko n = some .local
    · rw [if_pos h, List.filter_cons_of_pos (by simpa using h), List.reverse_cons, lookup_append]
      by_cases e : y = n
      · subst e; simp
      · have : (y == n) = false := beq_eq_false_iff_ne.mpr e
        simp [e, List.lookup_cons, this]
    · rw [if_neg h, List.filter_cons_of_neg (by simpa using h)]
where
  lookup_append {l r : List (Str × Value)} {y : Str} : (l ++ r).lookup y = (l.lookup y).or (r.lookup y) := by
    induction l with
    | nil => simp
    | cons p l ih =>
      rw [List.cons_append, List.lookup_cons, List.lookup_cons]
      cases (y == p.1) <;> simp [ih]
theorem bindC_look {ko : Str → Option NameKind} : ∀ (binds : List (Str × Value)) (m : Str → Option Value) (y : Str),
    bindC ko binds m y = ((binds.filter fun x => !decide (ko x.1 = some .local)).reverse.lookup y).or (m y)
  | [], m, y => rfl
  | (n, v) :: r, m, y => by
    unfold bindC
    rw [bindC_look r]
    by_cases h : ko n = some .local
    · rw [if_pos h, List.filter_cons_of_neg (by simpa using h)]
    · rw [if_neg h, List.filter_cons_of_pos (by simpa using h), List.reverse_cons, bindL_look.lookup_append]
      by_cases e : y = n
      · subst e; simp
      · have : (y == n) = false := beq_eq_false_iff_ne.mpr e
        simp [e, List.lookup_cons, this]
theorem lookup_er (l : List (Str × Value)) (x : Str) : (l.lookup x).map er = (l.map fun y => (y.1, er y.2)).lookup x := by
  induction l with
  | nil => rfl
  | cons y r ih =>
    rw [List.lookup_cons, List.map_cons, List.lookup_cons]
    cases (x == y.1) <;> simp_all
theorem Sat.cells {L : Addr} {m cm : Str → Option Value} {cs : List (Str × Addr)} {mm : List (Str × Value)} (S : Sat C σ s) (x : InCallC s L m cs cm s') (hL : s.heap.objs.size ≤ L) (hm : ∀ y, (m y).map er = mm.lookup y)
    (hnd : (cs.map (·.1)).Nodup) (htk : s.toks ≤ s'.toks) : Sat C ((L, .ns mm) :: (cs.map fun p => (p.2, PO.cel ((cm p.1).map er))) ++ σ) s' := by
  have k := x.toInCall.keep
  obtain ⟨o', ho', hp'⟩ := PO.of_ns x.toInCall.ns hm
  have hlk : ∀ p ∈ cs, cs.lookup p.1 = some p.2 := fun p hp => by
    have go : ∀ l : List (Str × Addr), (l.map (·.1)).Nodup → p ∈ l → l.lookup p.1 = some p.2 := by
      intro l
      induction l with
      | nil => intro _ h; cases h
      | cons q r ih =>
        intro hn h
        rw [List.map_cons, List.nodup_cons] at hn
        rw [List.lookup_cons]
        rcases List.mem_cons.mp h with rfl | h
        · simp
        · have : (p.1 == q.1) = false := beq_eq_false_iff_ne.mpr fun e => hn.1 (e ▸ List.mem_map_of_mem (f := (·.1)) h)
          rw [this]; exact ih hn.2 h
    exact go cs hnd hp
  obtain ⟨h', tk, rfl⟩ := x.toInCall.same
  refine ⟨S.old.step_keeps k, ?_, fun q hq => ?_, fun q hq => ?_, ?_, S.os, S.gens, S.gl, Nat.lt_of_lt_of_le S.tk htk, fun q hq => (S.lam q hq).step (fun o e => k _ o e) (fun b o _ e => k b o e) fun c hc hn hm' => by
    rw [List.cons_append, List.map_cons, List.map_append] at hm'
    rcases List.mem_cons.mp hm' with e | hm'
    · exact Nat.lt_irrefl _ (Nat.lt_of_lt_of_le hc (Nat.le_trans hL (Nat.le_of_eq e.symm)))
    · rcases List.mem_append.mp hm' with hm' | hm'
      · obtain ⟨q, hq, e⟩ := List.mem_map.mp hm'
        obtain ⟨p, hp, rfl⟩ := List.mem_map.mp hq
        have := x.above p.1 p.2 hp
        have e : p.2 = c := e
        exact Nat.lt_irrefl _ (Nat.lt_of_lt_of_le (Nat.lt_trans (Nat.lt_of_le_of_lt hL this) (Nat.lt_succ_self _)) (by rw [e]; exact hc))
      · exact hn hm'⟩
  · obtain ⟨mc, ⟨oc, es, ep, hc, _⟩, _⟩ := C.lim
    exact (k _ _ (S.stat.trans hc)).trans hc.symm
  · rcases List.mem_cons.mp hq with rfl | hq
    · exact ⟨o', ho', hp'⟩
    · rcases List.mem_append.mp hq with hq | hq
      · obtain ⟨p, hp, rfl⟩ := List.mem_map.mp hq
        obtain ⟨o, ho, hd⟩ := x.cell p.1 p.2 (hlk p hp)
        exact ⟨o, ho, _, hd, rfl⟩
      · obtain ⟨y, hy, h⟩ := S.led q hq; exact ⟨y, k _ _ hy, h⟩
  · rcases List.mem_cons.mp hq with rfl | hq
    · exact Nat.le_trans S.size hL
    · rcases List.mem_append.mp hq with hq | hq
      · obtain ⟨p, hp, rfl⟩ := List.mem_map.mp hq
        exact Nat.le_trans S.size (Nat.le_trans hL (Nat.le_of_lt (x.above p.1 p.2 hp)))
      · exact S.low q hq
  · rw [List.cons_append, List.map_cons, List.nodup_cons, List.map_append, List.map_map]
    have e : (cs.map ((fun p : Addr × PO => p.1) ∘ fun p : Str × Addr => (p.2, PO.cel ((cm p.1).map er)))) = cs.map (·.2) := List.map_congr_left fun _ _ => rfl
    rw [e]
    have hσ : ∀ a ∈ σ.map (·.1), a < s.heap.objs.size := fun a ha => by
      obtain ⟨q, hq, rfl⟩ := List.mem_map.mp ha
      exact S.lt (p := q.2) hq
    have hc : ∀ a ∈ cs.map (·.2), L < a := fun a ha => by
      obtain ⟨q, hq, rfl⟩ := List.mem_map.mp ha
      exact x.above q.1 q.2 hq
    refine ⟨fun hm => ?_, ?_⟩
    · rcases List.mem_append.mp hm with hm | hm
      · exact Nat.lt_irrefl _ (hc _ hm)
      · exact Nat.lt_irrefl _ (Nat.lt_of_lt_of_le (hσ _ hm) hL)
    · rw [List.nodup_append]
      refine ⟨(List.pairwise_map.mpr x.apart), S.nd, fun a ha b hb e => ?_⟩
      subst e
      exact Nat.lt_irrefl _ (Nat.lt_of_lt_of_le (hσ _ hb) (Nat.le_trans hL (Nat.le_of_lt (hc _ ha))))
theorem wpAny_toks {α : Type} {M : Model} {t : Sem α} {Q : α → Shared → Prop} {E : Value → Shared → Prop} {s : Shared} (h : wpAny M A t (fun a s' => s.toks ≤ s'.toks → Q a s') E s) : wpAny M A t Q E s := fun Γ p hΓ =>
  Sem.wp_mono M Γ t (fun _ _ _ h' => h'.1 h'.2) (fun _ _ _ h' => h') _ _ (wp_toks t (h Γ p hΓ))
theorem T_callG {R : Result → Led → Prop} {f : Addr} {nm qual : Str} {params : Arguments} {body : List Stmt} {scope : Scope} {dV kV doc pm cdv ct oc : Value} {an od : Option Addr} {osl : Array (Option Value)} {args : List Value} {kw : List (Str × Value)} {m : List (Str × Value)} (binds : List (Str × Value))
    (cells : Addr → List (Str × Addr)) (cv : Addr → Led)
    (hroom : A.depth < recursionLimit) (ho : C.K.lookup f = some ⟨oc, od, .func (fnX nm qual params body scope [] dV kV doc pm an cdv ct), osl⟩) (hcd : codeIn C.K cdv qual = true)
    (hbind : ∀ s, C.K.In s.heap → BindsTo s (fnX nm qual params body scope [] dV kV doc pm an cdv ct) ⟨args, kw⟩ binds) (hloc : (binds.all fun y => scope.names.lookup y.1 == some .local || (scope.names.lookup y.1 == some .cell && ((cellsFrom 0 scope.names []).lookup y.1).isSome)) = true)
    (hm : (binds.filter fun x => decide (scope.names.lookup x.1 = some .local)).reverse.map (fun y => (y.1, er y.2)) = m)
    (hcells : ∀ L, cellsFrom (L + 1) scope.names [] = cells L)
    (hcv : ∀ L, ((cells L).map fun p => (p.2, PO.cel ((((binds.filter fun x => !decide (scope.names.lookup x.1 = some .local)).reverse.lookup p.1).or none).map er))) = cv L)
    (hnd : ((cells 0).map (·.1)).Nodup) (hnd2 : ∀ L, (cells L).map (·.1) = (cells 0).map (·.1))
    (h : ∀ L, T prog w C (A.deeper (envX qual scope L f cdv (cells L))) ((L, .ns m) :: cv L ++ σ) (execs body (envX qual scope L f cdv (cells L))) (fun fl => Up (fun v => R (.ok (.ret v))) (retv fl)) NoE)
    (hco : scope.isCoroutine = false := by rfl) (hgen : scope.isGenerator = false := by rfl) (hk : scope.kind = .function := by rfl) :
    TC prog w C A σ (.call (.ref f) ⟨args, kw⟩) R := by
  subst hm
  intro s S
  refine codeAny_call_function (fd := fnX nm qual params body scope [] dV kV doc pm an cdv ct) (body := body) hroom (S.kin _ _ ho) rfl hco hgen rfl (codeRec_of S.kin hcd) ?_
  refine hbind s S.kin _ _ _ _ ?_
  refine wpAny_toks ?_
  refine wpAny_newFunctionEnv_cells hk (fun x hx => ?_) fun env' he s' x htk => ?_
  · have := List.all_eq_true.mp hloc x hx
    rw [Bool.or_eq_true, Bool.and_eq_true, beq_iff_eq, beq_iff_eq] at this
    rcases this with h | ⟨h1, h2⟩
    · exact .inl h
    · refine .inr ⟨h1, ?_⟩
      have key : ∀ (names : List (Str × NameKind)) n n' acc acc', (acc.lookup x.1).isSome = (acc'.lookup x.1).isSome → ((cellsFrom n names acc).lookup x.1).isSome = ((cellsFrom n' names acc').lookup x.1).isSome := by
        intro names
        induction names with
        | nil => intro n n' acc acc' h; exact h
        | cons p r ih =>
          obtain ⟨a, b⟩ := p
          intro n n' acc acc' h
          unfold cellsFrom
          split
          · refine ih _ _ _ _ ?_
            rw [List.lookup_cons, List.lookup_cons]
            cases (x.1 == a) <;> simp [h]
          · exact ih _ _ _ _ h
      rw [← h2]
      exact key _ _ _ _ _ rfl
  have he' : env' = envX qual scope s.heap.objs.size f cdv (cells s.heap.objs.size) := by
    rw [he]
    show newEnv scope s.heap.objs.size mainGlobals _ _ _ _ none builtinsNs = _
    rw [hcells]
    rfl
  subst he'
  refine ⟨S.lim.keeps x.toInCall.keep, codeAny_func ?_⟩
  have S' := Sat.cells (mm := (binds.filter fun x => decide (scope.names.lookup x.1 = some .local)).reverse.map (fun y => (y.1, er y.2))) S x (Nat.le_refl _) (fun y => by
    rw [bindL_look, Option.or_none, lookup_er]; rfl) (by show ((cells s.heap.objs.size).map (·.1)).Nodup; rw [hnd2]; exact hnd) htk
  have e : ((cells s.heap.objs.size).map fun p => (p.2, PO.cel ((bindC (Env.kindOf (envX qual scope s.heap.objs.size f cdv (cells s.heap.objs.size))) binds (fun _ => none) p.1).map er))) = cv s.heap.objs.size := by
    rw [← hcv]
    exact List.map_congr_left fun p _ => by rw [bindC_look]; rfl
  rw [show (envX qual scope s.heap.objs.size f cdv (cells s.heap.objs.size)).cells = cells s.heap.objs.size from rfl, e] at S'
  refine (h _).kN S' fun fl σ' s' ⟨σ'', hs, hq⟩ S' => ?_
  cases fl <;> exact ⟨σ'', hq, S'.sub hs⟩
theorem T_callTC {Q : Value → Led → Prop} {f : Value} {args : List Value} {kw : List (Str × Value)} (h : TC prog w C A σ (.call f ⟨args, kw⟩) (fun r σ' => match r with | .ok (.ret v) => Q v σ' | _ => False)) : T prog w C A σ (call f args kw) Q E :=
  fun s S => wpAny_call (codeAny_mono (h s S) fun r s' ⟨σ', hr, S'⟩ => by
    cases r with
    | error e => exact hr.elim
    | ok fl => cases fl with
      | ret v => exact ⟨σ', hr, S'⟩
      | _ => exact hr.elim)
end
set_option maxHeartbeats 1000000
section
variable {prog : Program} {w : World} {C : Cx} {A : Around} {σ σ' τ : Led} {α β : Type} {E : Value → Led → Prop} {env : Env} {s : Shared}
theorem T_iterL {l : Addr} {xs : List Value} {Q : Value → Led → Prop} (hl : (l, .lst xs) ∈ σ) (h : ∀ it, Q (.ref it) ((it, itr l 0) :: σ)) : T prog w C A σ (pyIter (.ref l)) Q E := fun _ S => iterL S hl fun it _ S' => ⟨_, h it, S'⟩
theorem T_iterS {x : Str} {t : Tok} {Q : Value → Led → Prop} (ha : x.cps.all (· < 128) = true) (h : ∀ it, Q (.ref it) ((it, sitr x t 0) :: σ)) : T prog w C A σ (pyIter (.str x t)) Q E := fun _ S => iterS S ha fun it _ S' => ⟨_, h it, S'⟩
theorem T_forIt {it : Addr} {target : Expr} {body : List Stmt} {R : Result → Led → Prop} {po : Nat → PO} {xs : List Value} {need : Led → Prop}
    (I : Its C prog w A it po xs need) (J : List Value → Led → Prop) (h0 : J xs τ) (hn : ∀ r τ, J r τ → need τ)
    (turn : ∀ v r τ i, J (er v :: r) τ → T prog w C A ((it, po i) :: τ) (assign target env v) (fun _ σ₁ => T prog w C A σ₁ (execs body env) (fun fl σ₂ => match fl with
        | .next | .cont => ∃ τ', J r τ' ∧ ((it, po i) :: τ').Sublist σ₂
        | .brk => R (.ok .next) σ₂
        | .ret v => R (.ok (.ret v)) σ₂) NoE) NoE)
    (fin : ∀ τ, J [] τ → R (.ok .next) τ) (ht : ∀ it v, letOwnedTupleGo target it v = Pure.pure () := by intro _ _; rfl) :
    TC prog w C A ((it, po 0) :: τ) (.forLoop target (.ref it) body [] env) R := by
  intro s S
  refine codeAny_mono (forIt (R := fun f s' => ∃ σ', R (.ok f) σ' ∧ Sat C σ' s') (Er := fun _ _ => False) I J S h0 hn (fun v r τ i s₁ hJ S₁ => ?_) (fun τ s₁ hJ S₁ => ⟨_, fin τ hJ, S₁⟩) ht) fun r s' h => by
    cases r with
    | ok f => exact h
    | error e => exact h.elim
  refine (turn v r τ i hJ).kN S₁ fun _ σ₁ s₂ h₁ S₂ => T.kN (E' := fun _ _ => False) h₁ S₂ fun fl σ₂ s₃ h₂ S₃ => ?_
  cases fl with
  | next => obtain ⟨τ', hJ', hs⟩ := h₂; exact ⟨τ', hJ', S₃.sub hs⟩
  | cont => obtain ⟨τ', hJ', hs⟩ := h₂; exact ⟨τ', hJ', S₃.sub hs⟩
  | brk => exact ⟨_, h₂, S₃⟩
  | ret v => exact ⟨_, h₂, S₃⟩
theorem T_forL {l it : Addr} {target : Expr} {body : List Stmt} {R : Result → Led → Prop} {xs : List Value} (hh : A.handled = none) (J : List Value → Led → Prop) (h0 : J xs τ) (hn : ∀ r τ, J r τ → (l, .lst xs) ∈ τ)
    (turn : ∀ v r τ i, J (er v :: r) τ → T prog w C A ((it, itr l i) :: τ) (assign target env v) (fun _ σ₁ => T prog w C A σ₁ (execs body env) (fun fl σ₂ => match fl with
        | .next | .cont => ∃ τ', J r τ' ∧ ((it, itr l i) :: τ').Sublist σ₂
        | .brk => R (.ok .next) σ₂
        | .ret v => R (.ok (.ret v)) σ₂) NoE) NoE)
    (fin : ∀ τ, J [] τ → R (.ok .next) τ) (ht : ∀ it v, letOwnedTupleGo target it v = Pure.pure () := by intro _ _; rfl) :
    TC prog w C A ((it, itr l 0) :: τ) (.forLoop target (.ref it) body [] env) R := T_forIt (itsL hh) J h0 hn turn fin ht
noncomputable def CompRestU (prog : Program) (w : World) (A : Around) (E : Value → Shared → Prop) (env : Env) (e : Expr) (scope : Scope) (cl : List (Str × Addr)) (newAcc : Sem Value) (use : Option (Value → Sem Unit)) (Q : Value → Shared → Prop) (it : Value) (s : Shared) : Prop :=
  wpAny (model prog w) A newAcc (fun acc s₃ => wpAny (model prog w) A (newFunctionEnv scope env.globals cl [] env.qual none .none (some env)) (fun cenv s₄ =>
      codeAny (model prog w) A (.compStart e 0 it acc { cenv with scope := relabel scope env }) (compPost (model prog w) A E use Q acc cenv.locals) s₄) E s₃) E s
noncomputable def CompT (prog : Program) (w : World) (C : Cx) (A : Around) (σ : Led) (env : Env) (e : Expr) (scope : Scope) (cl : List (Str × Addr)) (newAcc : Sem Value) (use : Option (Value → Sem Unit)) (Q : Value → Led → Prop) (E : Value → Led → Prop) (it : Value) : Prop :=
  ∀ s, Sat C σ s → CompRestU prog w A (fun e s' => ∃ σ', E e σ' ∧ Sat C σ' s') env e scope cl newAcc use (fun v s' => ∃ σ', Q v σ' ∧ Sat C σ' s') it s
noncomputable def FinC (prog : Program) (w : World) (C : Cx) (A : Around) (τ : Led) (p : PO) (Q : Value → Led → Prop) (E : Value → Led → Prop) : Option (Value → Sem Unit) → Prop
  | none => ∀ D, Q (.ref D) ((D, p) :: τ)
  | some u => ∀ L D m, T prog w C A ((L, .ns m) :: (D, p) :: τ) (u (.ref D)) (fun _ σ' => ∃ m' σ'', ((L, .ns m') :: σ'').Sublist σ' ∧ Q .none σ'') E
theorem FinC.post {p : PO} {Q : Value → Led → Prop} {use : Option (Value → Sem Unit)} {L D : Addr} {m : List (Str × Value)} (h : FinC prog w C A τ p Q E use) (S : Sat C ((L, .ns m) :: (D, p) :: τ) s) :
    compPost (model prog w) A (fun e s' => ∃ σ', E e σ' ∧ Sat C σ' s') use (fun v s' => ∃ σ', Q v σ' ∧ Sat C σ' s') (.ref D) L (.ok .next) s := by
  cases use with
  | none =>
    obtain ⟨o, ho, hp⟩ := S.get (.head _)
    obtain ⟨mm, nn, _⟩ := PO.ns_of ho hp
    exact ⟨mm, nn, fun h' hs' => ⟨_, h D, S.ext hs'.extBut s.toks⟩⟩
  | some u =>
    refine (h L D m).k S fun _ σ' s' ⟨m', σ'', hsub, hq⟩ S' => ?_
    have S₂ := S'.sub hsub
    obtain ⟨o, ho, hp⟩ := S₂.get (.head _)
    obtain ⟨mm, nn, _⟩ := PO.ns_of ho hp
    exact ⟨mm, nn, fun h' hs' => ⟨_, hq, S₂.ext hs'.extBut s'.toks⟩⟩
theorem wpAny_comp_free {e : Expr} {scope : Scope} {pos : Pos} {newAcc first : Sem Value} {g : Comprehension} {gs : List Comprehension} {cl : List (Str × Addr)} {use : Option (Value → Sem Unit)} {Q : Value → Led → Prop}
    (hcl : clausesOf e = g :: gs) (hs : ∀ x, foldedSetIterable g.iter env x = Pure.pure x) (hclos : closureFor scope env = Pure.pure cl) (hkind : scope.kind = .function) (hnames : ∀ x ∈ scope.names, x.2 = .local → scope.names.lookup x.1 = some .local)
    (h : T prog w C A σ first (fun xv σ₁ => T prog w C A σ₁ (pyIter xv) (fun it σ₂ => CompT prog w C A σ₂ env e scope cl newAcc use Q E it) E) E) : T prog w C A σ (comprehension e scope env pos newAcc false first use) Q E :=
  fun _ S => PySem.wpAny_comprehension_free hcl hs hclos hkind hnames (h.k S fun _ _ _ h S => h.k S fun _ _ _ h S => h _ S)
theorem T_LC {elt iter : Expr} {x : Str} {px : Pos} {ifs : List Expr} {scope : Scope} {pos : Pos} (cl : List (Str × Addr)) {Q : Value → Led → Prop}
    (hclos : closureFor scope env = Pure.pure cl) (hkind : scope.kind = .function) (hnames : ∀ x ∈ scope.names, x.2 = .local → scope.names.lookup x.1 = some .local)
    (h : T prog w C A σ (eval iter env) (fun xv σ₁ => T prog w C A σ₁ (pyIter xv) (fun it σ₂ => CompT prog w C A σ₂ env (.ListComp elt [⟨.Name x px, iter, ifs, 0⟩] scope pos) scope cl (newList []) none Q E it) E) E)
    (hs : ∀ x, foldedSetIterable iter env x = Pure.pure x := by intro _; rfl) : T prog w C A σ (eval (.ListComp elt [⟨.Name x px, iter, ifs, 0⟩] scope pos) env) Q E := by
  rw [arm_eval_ListComp]
  exact wpAny_comp_free rfl hs hclos hkind hnames h
theorem T_LCu {elt iter : Expr} {x y : Str} {px py : Pos} {ifs : List Expr} {scope : Scope} {pos spos : Pos} (cl : List (Str × Addr)) {Q : Flow → Led → Prop}
    (hsw : swapsWith (.ListComp elt [⟨.Name x px, iter, ifs, 0⟩] scope pos) (some (.Name y py)) spos.line env = Pure.pure true) (hclos : closureFor scope env = Pure.pure cl) (hkind : scope.kind = .function) (hnames : ∀ x ∈ scope.names, x.2 = .local → scope.names.lookup x.1 = some .local)
    (h : T prog w C A σ (eval iter env) (fun xv σ₁ => T prog w C A σ₁ (pyIter xv) (fun it σ₂ => CompT prog w C A σ₂ env (.ListComp elt [⟨.Name x px, iter, ifs, 0⟩] scope pos) scope cl (newList []) (some (assign (.Name y py) env)) (fun _ => Q .next) E it) E) E)
    (hs : ∀ x, foldedSetIterable iter env x = Pure.pure x := by intro _; rfl) : T prog w C A σ (exec (.Assign [.Name y py] (.ListComp elt [⟨.Name x px, iter, ifs, 0⟩] scope pos) spos) env) Q E := by
  rw [exec_Assign_Name_used _ _ _ _ hsw]
  refine T.bind (T.standAt (T.bind ?_))
  unfold evalThenUse
  refine T.bind (wpAny_comp_free (Q := fun _ σ' => T prog w C A σ' (Pure.pure ()) (fun _ σ' => T prog w C A σ' (Pure.pure Flow.next) Q E) E) rfl hs hclos hkind hnames (h.mono (fun xv σ₁ h => h.mono (fun it σ₂ h => ?_) fun _ _ e => e) fun _ _ e => e))
  intro s S
  refine wpAny_mono (h s S) (fun acc s₃ h => wpAny_mono h (fun cenv s₄ h => codeAny_mono h fun r s' h => ?_) fun _ _ e => e) fun _ _ e => e
  cases r with
  | error e => exact h
  | ok f =>
    refine wpAny_mono h (fun _ s'' ⟨m, hn, hq⟩ => ⟨m, hn, fun h' hs' => ?_⟩) fun _ _ e => e
    obtain ⟨σ', hq, S'⟩ := hq h' hs'
    exact ⟨σ', T.pure (T.pure hq), S'⟩
theorem T_tests0 {Q : Bool → Led → Prop} (h : Q true σ) : T prog w C A σ (tests [] env) Q E := fun _ S => wpAny_pure ⟨_, h, S⟩
theorem tests_false (ifs : List Expr) (env : Env) : (forIn ifs false fun c r => if r = true then do let ok ← isTrue c env (eval c env); Pure.pure (ForInStep.yield ok) else Pure.pure (ForInStep.yield r)) = (Pure.pure false : Sem Bool) := by
  induction ifs with
  | nil => rfl
  | cons c r ih => rw [List.forIn_cons]; exact ih
theorem T_tests1 {c : Expr} {cs : List Expr} {Q : Bool → Led → Prop} (h : T prog w C A σ (isTrue c env (eval c env)) (fun ok σ' => if ok = true then T prog w C A σ' (tests cs env) Q E else Q false σ') E) : T prog w C A σ (tests (c :: cs) env) Q E := fun s S => by
  show wpAny _ _ (forIn (c :: cs) true _) _ _ _
  rw [List.forIn_cons]
  refine wpAny_bind ?_
  rw [if_pos rfl]
  refine wpAny_bind (h.k S fun ok σ' s' h' S' => wpAny_pure ?_)
  cases ok with
  | true => exact h' s' S'
  | false =>
    show wpAny _ _ (forIn cs false _) _ _ _
    rw [tests_false]
    exact wpAny_pure ⟨_, h', S'⟩
theorem compU {it : Addr} {elt iter : Expr} {x : Str} {px : Pos} {ifs : List Expr} {scope : Scope} {pos : Pos} {cl : List (Str × Addr)} {Q : Value → Led → Prop} {use : Option (Value → Sem Unit)} {po : Nat → PO} {xs : List Value} {need : Led → Prop}
    (I : Its C prog w A it po xs need) (J : List Value → List Value → Led → Prop) (h0 : J xs [] τ)
    (hn : ∀ r ys τ, J r ys τ → need τ) (hsz : ∀ r ys τ, J r ys τ → ys.length ≤ 1000000) (hk : scope.kind = .function) (hx : scope.names.lookup x = some .local) (hcell : ∀ y ∈ scope.names, y.2 ≠ .cell)
    (turn : ∀ D L pv r ys τ i m, J (pv :: r) ys τ → T prog w C A ((it, po i) :: (L, .ns ((x, pv) :: m)) :: (D, .lst ys) :: τ) (tests ifs (compEnvC scope cl L env)) (fun ok σ₁ =>
      if ok = true then T prog w C A σ₁ (eval elt (compEnvC scope cl L env)) (fun y σ₂ => ∃ τ', J r (ys ++ [er y]) τ' ∧ ((it, po i) :: (L, .ns ((x, pv) :: m)) :: (D, .lst ys) :: τ').Sublist σ₂) NoE
      else ∃ τ', J r ys τ' ∧ ((it, po i) :: (L, .ns ((x, pv) :: m)) :: (D, .lst ys) :: τ').Sublist σ₁) NoE)
    (fin : ∀ ys τ, J [] ys τ → FinC prog w C A τ (.lst ys) Q E use) (hneed : ∀ q τ, need τ → need (q :: τ) := by intro _ _ h; first | exact .tail _ h | exact h) :
    CompT prog w C A ((it, po 0) :: τ) env (.ListComp elt [⟨.Name x px, iter, ifs, 0⟩] scope pos) scope cl (newList []) use Q E (.ref it) := by
  intro s S
  unfold CompRestU
  refine wpAny_newObj_type ?_
  have S₁ := S.push (p := .lst []) (o := { cls := .type "list", data := .seq ([] : List Value).toArray }) ⟨_, _, rfl, rfl⟩ rfl s.toks
  generalize hD : s.heap.objs.size = D at S₁
  generalize hs₁ : ({ s with heap := s.heap.push { cls := .type "list", data := .seq ([] : List Value).toArray }, toks := s.toks } : Shared) = s₁ at S₁
  refine wpAny_newFunctionEnv hcell (by intro y hy; simp at hy) (fun h₁ hns hsb => ?_) hk
  obtain ⟨oL, hoL, hpL⟩ := PO.of_ns (m := []) hns (fun x => rfl)
  have kk : ∀ b o, s₁.heap.get? b = some o → h₁.get? b = some o := fun b o e => hsb.extBut b o (Nat.ne_of_lt (Heap.lt_size e)) (Heap.get?_push_of_some _ e)
  have S₂ := S₁.grow kk (Nat.le_refl _) hoL hpL (s₁.toks + ([] : List (Str × Value)).length)
  generalize hL : s₁.heap.objs.size = L at *
  have S₃ := S₂.perm (σ' := (it, po 0) :: (L, .ns []) :: (D, .lst []) :: τ) ((List.Perm.cons _ (List.Perm.swap _ _ _)).trans (List.Perm.swap _ _ _))
  refine compRun (cenv := compEnvC scope cl L env) (xs := xs) I J S₃ h0 hn hsz (lookup_relabel_local hx) (by simp [compEnvC, relabel, hk]) hneed (fun pv r ys τ i m s₁ hJ S' => ?_) fun ys τ m s₁ hJ S' => ?_
  · refine (turn D L pv r ys τ i m hJ).kN S' fun ok σ₁ s₂ h₁ S₂ => ?_
    cases ok with
    | true => exact T.kN (E' := fun _ _ => False) h₁ S₂ fun y σ₂ s₃ ⟨τ', hJ', hs⟩ S₃ => ⟨τ', hJ', S₃.sub hs⟩
    | false =>
      obtain ⟨τ', hJ', hs⟩ := h₁
      exact ⟨τ', hJ', S₂.sub hs⟩
  · exact (fin ys τ hJ).post S'
theorem T_comp {β : Type} {it : Addr} {elt iter : Expr} {x : Str} {px : Pos} {ifs : List Expr} {scope : Scope} {pos : Pos} {cl : List (Str × Addr)} {Q : Value → Led → Prop} {use : Option (Value → Sem Unit)} {po : Nat → PO} {need : Led → Prop} (l : List β) (g : β → Value) (f : β → Option Value)
    (I : Its C prog w A it po (l.map g) need) (hn : need τ) (hz : l.length ≤ 1000000) (hk : scope.kind = .function) (hx : scope.names.lookup x = some .local) (hcell : ∀ y ∈ scope.names, y.2 ≠ .cell)
    (turn : ∀ D L b ys i m, b ∈ l → T prog w C A ((it, po i) :: (L, .ns ((x, g b) :: m)) :: (D, .lst ys) :: τ) (tests ifs (compEnvC scope cl L env)) (fun ok σ₁ =>
      if ok = true then T prog w C A σ₁ (eval elt (compEnvC scope cl L env)) (fun y σ₂ => f b = some (er y) ∧ ((it, po i) :: (L, .ns ((x, g b) :: m)) :: (D, .lst ys) :: τ).Sublist σ₂) NoE
      else f b = none ∧ ((it, po i) :: (L, .ns ((x, g b) :: m)) :: (D, .lst ys) :: τ).Sublist σ₁) NoE)
    (fin : FinC prog w C A τ (.lst (l.filterMap f)) Q E use) (hneed : ∀ q τ, need τ → need (q :: τ) := by intro _ _ h; first | exact .tail _ h | exact h) :
    CompT prog w C A ((it, po 0) :: τ) env (.ListComp elt [⟨.Name x px, iter, ifs, 0⟩] scope pos) scope cl (newList []) use Q E (.ref it) := by
  refine compU (xs := l.map g) I (fun r ys τ' => τ' = τ ∧ ∃ done rest, l = done ++ rest ∧ r = rest.map g ∧ ys = done.filterMap f) ⟨rfl, [], l, rfl, rfl, rfl⟩ (fun r ys τ' h => h.1 ▸ hn) (fun r ys τ' h => ?_) hk hx hcell (fun D L pv r ys τ' i m h => ?_) (fun ys τ' h => ?_) hneed
  · obtain ⟨_, done, rest, e, _, rfl⟩ := h
    have := List.length_filterMap_le f done
    have : done.length ≤ l.length := by rw [e, List.length_append]; wtm_at "om"
    wtm_at "om"
  · obtain ⟨rfl, done, rest, e, hr, rfl⟩ := h
    cases rest with
    | nil => cases hr
    | cons b rest =>
      rw [List.map_cons] at hr
      injection hr with h1 h2
      subst h1 h2
      have hb : b ∈ l := by rw [e]; exact List.mem_append_right _ (.head _)
      have e' : l = (done ++ [b]) ++ rest := by rw [e, List.append_assoc]; rfl
      refine (turn D L b _ i m hb).mono (fun ok σ₁ h₁ => ?_) fun _ _ e => e
      cases ok with
      | true =>
        refine T.mono h₁ (fun y σ₂ h₂ => ⟨τ', ⟨rfl, done ++ [b], rest, e', rfl, ?_⟩, h₂.2⟩) fun _ _ e => e
        rw [List.filterMap_append, List.filterMap_cons, h₂.1]; rfl
      | false =>
        have h₁ : f b = none ∧ _ := h₁
        refine ⟨τ', ⟨rfl, done ++ [b], rest, e', rfl, ?_⟩, h₁.2⟩
        rw [List.filterMap_append, List.filterMap_cons, h₁.1]; simp
  · obtain ⟨rfl, done, rest, e, hr, rfl⟩ := h
    have : rest = [] := List.map_eq_nil_iff.mp hr.symm
    subst this
    rw [List.append_nil] at e
    subst e
    exact fin
theorem T_gmAppend {l : Addr} {xs : List Value} {pl : Sem Bool} {Q : Value × List Value → Led → Prop} (hl : (l, .lst xs) ∈ σ) (h : Q (.builtin "list.append", [.ref l]) σ) : T prog w C A σ (getMethod (.ref l) (Str.ofString "append") pl) Q E := fun _ S => gmL PySem.slot_list_append PySem.type_list_append S hl ⟨_, h, S⟩
theorem T_gmExtend {l : Addr} {xs : List Value} {pl : Sem Bool} {Q : Value × List Value → Led → Prop} (hl : (l, .lst xs) ∈ σ) (h : Q (.builtin "list.extend", [.ref l]) σ) : T prog w C A σ (getMethod (.ref l) (Str.ofString "extend") pl) Q E := fun _ S => gmL PySem.F.slot_list_extend PySem.F.type_list_extend S hl ⟨_, h, S⟩
theorem T_gmPop {l : Addr} {xs : List Value} {pl : Sem Bool} {Q : Value × List Value → Led → Prop} (hl : (l, .lst xs) ∈ σ) (h : Q (.builtin "list.pop", [.ref l]) σ) : T prog w C A σ (getMethod (.ref l) (Str.ofString "pop") pl) Q E := fun _ S => gmL PySem.F.slot_list_pop PySem.F.type_list_pop S hl ⟨_, h, S⟩
theorem T_append {l : Addr} {xs : List Value} {v : Value} {Q : Value → Led → Prop} (U : Upd l (.lst xs) (.lst (xs ++ [er v])) σ σ') (hz : xs.length ≤ 1000000) (h : Q .none σ') : T prog w C A σ (call (.builtin "list.append") [.ref l, v]) Q E := fun _ S => appendS S U hz fun _ S' => ⟨_, h, S'⟩
theorem T_pop {l : Addr} {xs : List Value} {v : Value} {Q : Value → Led → Prop} (U : Upd l (.lst (xs ++ [v])) (.lst xs) σ σ') (hz : xs.length ≤ 1000000) (h : Vs v fun v => Q v σ') : T prog w C A σ (call (.builtin "list.pop") [.ref l]) Q E := fun _ S => popS S U hz fun _ S' => h.led S'
theorem T_extend {l b : Addr} {xs ys : List Value} {Q : Value → Led → Prop} (hb : (b, .lst ys) ∈ σ) (U : Upd l (.lst xs) (.lst (xs ++ ys)) σ σ') (hz : xs.length + ys.length ≤ 1000000) (h : Q .none σ') : T prog w C A σ (call (.builtin "list.extend") [.ref l, .ref b]) Q E := fun _ S => extendS S hb U hz fun _ S' => ⟨_, h, S'⟩
theorem T_addL {l b : Addr} {xs ys : List Value} {Q : Value → Led → Prop} (hl : (l, .lst xs) ∈ σ) (hb : (b, .lst ys) ∈ σ) (hz : xs.length + ys.length ≤ 1000000) (h : ∀ D, Q (.ref D) ((D, .lst (xs ++ ys)) :: σ)) : T prog w C A σ (binaryOp .Add (.ref l) (.ref b)) Q E := fun _ S => addL S hl hb hz fun D _ S' => ⟨_, h D, S'⟩
theorem T_inL {l : Addr} {xs : List Str} {y : Str} {t : Tok} {Q : Value → Led → Prop} (hl : (l, .lst (txts xs)) ∈ σ) (h : Q (.bool (xs.any fun x => x.cps.toList == y.cps.toList)) σ) : T prog w C A σ (compareOp .In (.str y t) (.ref l)) Q E := fun _ S => inL S hl ⟨_, h, S⟩
theorem T_notInL {l : Addr} {xs : List Str} {y : Str} {t : Tok} {Q : Value → Led → Prop} (hl : (l, .lst (txts xs)) ∈ σ) (h : Q (.bool (!xs.any fun x => x.cps.toList == y.cps.toList)) σ) : T prog w C A σ (compareOp .NotIn (.str y t) (.ref l)) Q E := fun _ S => notInL S hl ⟨_, h, S⟩
theorem T_lenL {l : Addr} {xs : List Value} {Q : Value → Led → Prop} (hl : (l, .lst xs) ∈ σ) (hz : xs.length ≤ 1000000) (h : ∀ t, Q (.int xs.length t) σ) : T prog w C A σ (call (.builtin "len") [.ref l]) Q E := fun _ S => lenL S hl hz fun t _ S' => ⟨_, h t, S'⟩
theorem T_lenS {x : Str} {t : Tok} {Q : Value → Led → Prop} (hz : x.length ≤ 1000000) (h : ∀ t, Q (.int x.length t) σ) : T prog w C A σ (call (.builtin "len") [.str x t]) Q E := fun _ S => lenT S hz fun t _ S' => ⟨_, h t, S'⟩
theorem T_itemL {value slice : Expr} {l : Addr} {xs : List Value} {k : Int} {u : Tok} {pv : Value} {Q : Value → Led → Prop} (hl : (l, .lst xs) ∈ σ) (h0 : 0 ≤ k) (hfit : k < 2 ^ 63) (hx : xs[k.toNat]? = some pv) (h : Vs pv (fun v => Q v σ))
    (hs : subscripted slice false (.ref l) (.int k u) = operate [.ref l, .int k u] (getItem (.ref l) (.int k u)) := by with_unfolding_all rfl) : T prog w C A σ (subscriptTail value slice (.ref l) (.int k u)) Q E := fun _ S => itemL S hl h0 hfit hx (h.led S) hs
theorem T_neLen {l b : Addr} {xs ys : List Value} {Q : Value → Led → Prop} (hl : (l, .lst xs) ∈ σ) (hb : (b, .lst ys) ∈ σ) (hn : xs.length ≠ ys.length) (hu : A.units < cLine) (h : Q (.bool true) σ) : T prog w C A σ (compareOp .NotEq (.ref l) (.ref b)) Q E := fun _ S => neLen S hl hb hn hu ⟨_, h, S⟩
theorem T_neTxt {l b : Addr} {xs ys : List Str} {Q : Value → Led → Prop} (hl : (l, .lst (txts xs)) ∈ σ) (hb : (b, .lst (txts ys)) ∈ σ) (hu : A.units < cLine) (h : Q (.bool (decide (xs ≠ ys))) σ) : T prog w C A σ (compareOp .NotEq (.ref l) (.ref b)) Q E := fun _ S => neTxt S hl hb hu ⟨_, h, S⟩
theorem T_gmSplit {x : Str} {t : Tok} {pl : Sem Bool} {Q : Value × List Value → Led → Prop} (h : Q (.builtin "str.split", [.str x t]) σ) : T prog w C A σ (getMethod (.str x t) (Str.ofString "split") pl) Q E := fun _ S => GM.split ⟨_, h, S⟩
theorem T_gmLower {x : Str} {t : Tok} {pl : Sem Bool} {Q : Value × List Value → Led → Prop} (h : Q (.builtin "str.lower", [.str x t]) σ) : T prog w C A σ (getMethod (.str x t) (Str.ofString "lower") pl) Q E := fun _ S => GM.lower ⟨_, h, S⟩
theorem T_gmUpper {x : Str} {t : Tok} {pl : Sem Bool} {Q : Value × List Value → Led → Prop} (h : Q (.builtin "str.upper", [.str x t]) σ) : T prog w C A σ (getMethod (.str x t) (Str.ofString "upper") pl) Q E := fun _ S => GM.upper ⟨_, h, S⟩
theorem T_gmEndswith {x : Str} {t : Tok} {pl : Sem Bool} {Q : Value × List Value → Led → Prop} (h : Q (.builtin "str.endswith", [.str x t]) σ) : T prog w C A σ (getMethod (.str x t) (Str.ofString "endswith") pl) Q E := fun _ S => GM.endswith ⟨_, h, S⟩
theorem T_gmJoin {x : Str} {t : Tok} {pl : Sem Bool} {Q : Value × List Value → Led → Prop} (h : Q (.builtin "str.join", [.str x t]) σ) : T prog w C A σ (getMethod (.str x t) (Str.ofString "join") pl) Q E := fun _ S => GM.join ⟨_, h, S⟩
theorem T_addS {x y : Str} {t u : Tok} {Q : Value → Led → Prop} (hz : x.length + y.length ≤ 1000000) (h : ∀ t, Q (.str (x ++ y) t) σ) : T prog w C A σ (binaryOp .Add (.str x t) (.str y u)) Q E := fun _ S =>
  withTk (add_str (fun t' tk hk => ⟨_, h t', S.tok tk hk⟩) (by rw [sizeLine_eq]; wtm_at "om")) S.tk
theorem T_lower {x : Str} {t : Tok} {Q : Value → Led → Prop} (hf : (Txt.lower x).length ≤ 1000000) (h : ∀ t, Q (.str (Txt.lower x) t) σ) : T prog w C A σ (call (.builtin "str.lower") [.str x t]) Q E := fun _ S => lowerS S hf fun t _ S' => ⟨_, h t, S'⟩
theorem T_upper {x : Str} {t : Tok} {Q : Value → Led → Prop} (hf : (Txt.upper x).length ≤ 1000000) (h : ∀ t, Q (.str (Txt.upper x) t) σ) : T prog w C A σ (call (.builtin "str.upper") [.str x t]) Q E := fun _ S => SC.upper (fits hf) ⟨_, h _, S.tok _⟩
theorem T_endswith {x y : Str} {t u : Tok} {Q : Value → Led → Prop} (h : Q (.bool (Txt.endswith x y)) σ) : T prog w C A σ (call (.builtin "str.endswith") [.str x t, .str y u]) Q E := fun _ S => SC.endswith ⟨_, h, S⟩
theorem T_join {x : Str} {t : Tok} {l : Addr} {xs : List Str} {Q : Value → Led → Prop} (hl : (l, .lst (txts xs)) ∈ σ) (h1 : xs.foldl (fun n p => n + p.length + x.length) 0 ≤ 1000000) (h2 : (Builtin.Str.glued x xs).length ≤ 1000000) (h : ∀ t, Q (.str (Builtin.Str.glued x xs) t) σ) :
    T prog w C A σ (call (.builtin "str.join") [.str x t, .ref l]) Q E := fun _ S => joinS S hl h1 h2 fun t _ S' => ⟨_, h t, S'⟩
theorem T_addI {a b : Int} {t u : Tok} {Q : Value → Led → Prop} (h : ∀ t, Q (.int (a + b) t) σ) : T prog w C A σ (binaryOp .Add (.int a t) (.int b u)) Q E := fun _ S => add_int ⟨_, h _, S.tok _⟩
theorem T_modI {a b : Int} {t u : Tok} {Q : Value → Led → Prop} (hb : b ≠ 0) (h : ∀ t, Q (.int (a.fmod b) t) σ) : T prog w C A σ (binaryOp .Mod (.int a t) (.int b u)) Q E := fun _ S => mod_int' hb ⟨_, h _, S.tok _⟩
theorem T_divI {a b : Int} {t u : Tok} {Q : Value → Led → Prop} (hb : b ≠ 0) (hp : Builtin.divisionGoesByPylong a b = false) (h : ∀ t, Q (.int (a.fdiv b) t) σ) : T prog w C A σ (binaryOp .FloorDiv (.int a t) (.int b u)) Q E := fun _ S => floordiv_int hb ⟨_, h _, S.tok _⟩ (.inl hp)
theorem T_powI {a n : Int} {t u : Tok} {Q : Value → Led → Prop} (hn : 0 ≤ n) (hz : (Builtin.Int.intBits a : Int) * n ≤ 2 ^ 27) (h : ∀ t, Q (.int (a ^ n.toNat) t) σ) : T prog w C A σ (binaryOp .Pow (.int a t) (.int n u)) Q E := fun _ S => pow_int hn hz ⟨_, h _, S.tok _⟩
theorem T_ltI {a b : Int} {t u : Tok} {Q : Value → Led → Prop} (h : Q (.bool (decide (a < b))) σ) : T prog w C A σ (compareOp .Lt (.int a t) (.int b u)) Q E := fun _ S => lt_int ⟨_, h, S⟩
theorem T_eqI {a b : Int} {t u : Tok} {Q : Value → Led → Prop} (h : Q (.bool (a == b)) σ) : T prog w C A σ (compareOp .Eq (.int a t) (.int b u)) Q E := fun _ S => P.eq_int ⟨_, h, S⟩
end
set_option maxHeartbeats 1000000
local macro_rules | `(tactic| wtm_at "r_mr") => `(tactic| with_reducible (first | assumption | ((repeat (first | exact List.mem_cons_self | assumption | refine List.mem_cons_of_mem _ ?_)) <;> fail)))
local macro_rules | `(tactic| wtm_at "r_ur") => `(tactic| ((repeat (first | exact Upd.head | assumption | apply Upd.tail)) <;> fail))
local macro_rules | `(tactic| wtm_at "r_len") => `(tactic| first | exact Nat.le_of_ble_eq_true rfl | assumption | (simp only [Str.length_append, List.length_append, List.length_map, List.length_cons, List.length_nil] at *; wtm_at "om"))
local macro_rules | `(tactic| wtm_at "t_look") => `(tactic| first | (wtm_at "r_lk"; done) | assumption | exact rfl)
local macro_rules | `(tactic| wtm_at "t_name") => `(tactic| ((with_reducible refine T_Name ?_); first
  | (refine T_ldL (by rfl) (by rfl) (by wtm_at "r_mf") (by wtm_at "t_look") ?_; dsimp only [Vs, er])
  | refine T_ldG (by rfl) (by rfl) (by rfl) (by wtm_at "r_glob") ?_
  | refine T_ldB (by rfl) (by rfl) (by rfl) (by rfl) (by wtm_at "r_bui") (by wtm_at "r_k") (by decide) ?_
  | (refine T_ldC (by rfl) (by rfl) (by rfl) (by wtm_at "r_mf") ?_; dsimp only [Vs, er])))
local macro_rules | `(tactic| wtm_at "t_st") => `(tactic| first
  | refine T_stL (by wtm_at "r_ur") (by rfl) (by rfl) ?_
  | refine T_stC (by rfl) (by wtm_at "r_ur") (by rfl) (by rfl) ?_)
local macro_rules | `(tactic| wtm_at "t_getA") => `(tactic| (refine' T_getA ?m1 ?m2 ?m4 ?m3 ?m7 ?_; (case m1 => wtm_at "r_mem"); (case m2 => wtm_at "r_mem"); (case m4 => wtm_at "r_cls"); (case m3 => wtm_at "t_look"); (case m7 => exact rfl); (dsimp only [Vs, er])))
local macro_rules | `(tactic| wtm_at "t_setA") => `(tactic| (refine' T_setD ?m1 ?m2 ?m3 ?mi ?m7 ?_; (case m1 => wtm_at "r_mem"); (case m2 => wtm_at "r_upd"); (case mi => kernel_rfl!); (case m3 => wtm_at "r_cls"); (case m7 => wtm_at "r_le")))
local macro_rules | `(tactic| wtm_at "t_mth") => `(tactic| first
  | (refine' T_mth ?m1 ?m2 ?m3 ?m4 ?_; (case m1 => wtm_at "r_mem"); (case m2 => wtm_at "r_mem"); (case m3 => wtm_at "r_meth"); (case m4 => kernel_rfl!))
  | (refine' T_mthOwn ?m1 ?m2 ?m3 ?m4 ?m5 ?_; (case m1 => wtm_at "r_mem"); (case m2 => wtm_at "r_mem"); (case m3 => wtm_at "r_cls"); (case m4 => wtm_at "t_look"); (case m5 => exact rfl); (dsimp only [Vs, er]))
  | ((with_reducible show T _ _ _ _ _ (getMethod _ (Str.ofString "append") _) _ _); refine T_gmAppend (by wtm_at "r_mr") ?_)
  | ((with_reducible show T _ _ _ _ _ (getMethod _ (Str.ofString "extend") _) _ _); refine T_gmExtend (by wtm_at "r_mr") ?_)
  | ((with_reducible show T _ _ _ _ _ (getMethod _ (Str.ofString "pop") _) _ _); refine T_gmPop (by wtm_at "r_mr") ?_))
local macro_rules | `(tactic| wtm_at "t_exec") => do
  let a := ids "T_If T_AssignN T_AssignA T_Return T_Return0 T_Expr T_AugA"
  `(tactic| first
  $[| with_reducible refine $a ?_]*
  | with_reducible refine T_For ?_ (fun _ => by with_unfolding_all rfl))
local macro_rules | `(tactic| wtm_at "t_test") => do
  let a := ids "T_tCmp T_tAnd0 T_tAnd T_tOr0 T_tOr T_tV"
  `(tactic| first
  $[| with_reducible refine $a ?_]*)
local macro_rules | `(tactic| wtm_at "t_expr") => do
  let a := ids "T_Bin T_MCall T_Call T_Attr T_Sub T_Cmp T_cNone T_cBool T_List T_Tuple T_IfExp"
  let b := ids "T_cStr T_cInt T_Dict0"
  `(tactic| first
  | wtm_at "t_name"
  $[| with_reducible refine $a ?_]*
  $[| (with_reducible refine $b ?_; intro _)]*)
local macro_rules | `(tactic| wtm_at "t_cmp") => do
  let a := ids "T_isN T_isNN T_neS T_inS T_ltI T_eqI"
  `(tactic| first
  $[| with_reducible refine $a ?_]*)
local macro_rules | `(tactic| wtm_at "t_tr") => do
  let a := ids "T_trB T_trN T_trI"
  `(tactic| first
  $[| with_reducible refine $a ?_]*
  | refine T_trL (by wtm_at "r_mr") (by wtm_at "r_len") ?_)
local macro_rules | `(tactic| wtm_at "t_call") => `(tactic| first
  | ((with_reducible show T _ _ _ _ _ (call (Value.builtin "list.append") _ _) _ _); refine T_append (by wtm_at "r_ur") (by wtm_at "r_len") ?_)
  | (with_reducible refine T_lenS ?a1 ?_; (case a1 => wtm_at "r_len"); intro _)
  | (with_reducible refine T_endswith ?_))
local macro_rules | `(tactic| wtm_at "t_cw") => do
  let a := ids "T_callB T_callB0 T_callT"
  `(tactic| first
  $[| with_reducible refine $a ?_]*
  | ((with_reducible refine' T_callK ?k1 ?_ (he := ?he0) (hp := ?hp0)); (case he0 => rfl); (case hp0 => rfl); (case k1 => exact keep_of (by assumption) (by decide)))
  | (with_reducible refine' T_callK0 ?k1 ?_; (case k1 => exact keep_of (by assumption) (by decide)))
  | refine T_callBnd (by wtm_at "r_mr") ?_ (he := by rfl) (hp := by rfl))
local macro_rules | `(tactic| wtm_at "t_gm") => do
  let a := ids "T_gmSplit T_gmLower T_gmUpper T_gmEndswith T_gmJoin"
  `(tactic| first
  $[| with_reducible refine $a ?_]*
  | ((with_reducible show T _ _ _ _ _ (getMethod (Value.ref _) _ _) _ _); wtm_at "t_mth"))
local macro_rules | `(tactic| wtm_at "t_ev") => `(tactic| first
  | ((with_reducible show T _ _ _ _ _ (eval _ _) _ _); wtm_at "t_expr")
  | with_reducible refine T_cons ?_
  | ((with_reducible show T _ _ _ _ _ (exec _ _) _ _); wtm_at "t_exec")
  | ((with_reducible show T _ _ _ _ _ (isTrue _ _ _) _ _); wtm_at "t_test")
  | with_reducible refine T_nil ?_
  | with_reducible refine T_args0 ?_
  | with_reducible refine T_args1 ?_
  | ((with_reducible show T _ _ _ _ _ (callWith _ _ _ _ _) _ _); wtm_at "t_cw")
  | ((with_reducible show T _ _ _ _ _ (getMethod _ _ _) _ _); wtm_at "t_gm")
  | ((with_reducible show T _ _ _ _ _ (truthy _) _ _); wtm_at "t_tr")
  | ((with_reducible show T _ _ _ _ _ (compareOp _ _ _) _ _); wtm_at "t_cmp")
  | ((with_reducible show T _ _ _ _ _ (getAttr _ _ _) _ _); wtm_at "t_getA")
  | ((with_reducible show T _ _ _ _ _ (setAttr _ _ _) _ _); wtm_at "t_setA")
  | ((with_reducible show T _ _ _ _ _ (storeName _ _ _) _ _); wtm_at "t_st")
  | ((with_reducible show T _ _ _ _ _ (call _ _ _) _ _); wtm_at "t_call")
  | ((with_reducible show T _ _ _ _ _ (assign (Expr.Name _ _) _ _) _ _); with_reducible refine T_assignN ?_)
  | ((with_reducible show T _ _ _ _ _ (tests [] _) _ _); refine T_tests0 ?_)
  | ((with_reducible show T _ _ _ _ _ (tests (_ :: _) _) _ _); refine T_tests1 ?_)
  | ((with_reducible show ite _ _ _); first | refine ifF rfl ?_ | refine ifT rfl ?_)
  | ((with_reducible show List.length _ ≤ 1000 ∧ _); refine ⟨by wtm_at "r_len", ?_⟩)
  | ((with_reducible show (_, PO.raw (bndO _ _)) ∈ _ ∧ _); refine ⟨by wtm_at "r_mem", ?_⟩)
  | ((with_reducible show ∀ _, _); intro _))
local macro_rules | `(tactic| wtm_at "t_go") => `(tactic| repeat (first | wtm_at "t_ev" | (dsimp only; wtm_at "t_ev") | (dsimp only [List.cons_append, List.nil_append, List.map_cons, List.map_nil, er]; wtm_at "t_ev")))
set_option maxHeartbeats 1000000
theorem led_orStandIn (t : SetTable) (n : Nat) : (t.orStandIn n).led = t.led := by unfold SetTable.orStandIn; split <;> rfl
theorem plain_orStandIn (t : SetTable) (n : Nat) (h : t.plain = false) : (t.orStandIn n).plain = false := by unfold SetTable.orStandIn; split <;> first | exact h | rfl
theorem led_layNew (t : SetTable) (es : Array (Int × Value)) (h : Int) (x : Value) : (layNew t es h x).2.1.led = t.led := by
  unfold layNew; split
  · exact led_orStandIn _ _
  · rfl
theorem plain_layNew (t : SetTable) (es : Array (Int × Value)) (h : Int) (x : Value) (hp : t.plain = false) : (layNew t es h x).2.1.plain = false := by
  unfold layNew; split
  · exact plain_orStandIn _ _ hp
  · rfl
theorem laid_led {mask finger moves : Nat} {led plain : Bool} {hs : Array Int} {r : SetTable × Array Nat} (h : SetTable.laid mask finger moves led plain hs = some r) : r.1.led = led ∧ r.1.plain = plain := by
  unfold SetTable.laid at h
  cases hc : SetTable.layClean mask hs with
  | none => rw [hc] at h; cases h
  | some o => rw [hc] at h; cases h; exact ⟨rfl, rfl⟩
theorem led_relayAll (t : SetTable) (es : Array (Int × Value)) (n : Nat) : (relayAll t es n).2.1.led = t.led := by
  unfold relayAll; split
  · rename_i t' order hr
    dsimp only
    split
    · exact (laid_led hr).1
    · rfl
  · rfl
theorem plain_relayAll (t : SetTable) (es : Array (Int × Value)) (n : Nat) (hp : t.plain = false) : (relayAll t es n).2.1.plain = false := by
  unfold relayAll; split
  · rename_i t' order hr
    dsimp only
    split
    · exact (laid_led hr).2.trans hp
    · rfl
  · rfl
theorem has_empty (j : Nat) : SetTable.has #[] j = false := by simp [SetTable.has]
theorem probe_dummy {t : SetTable} (hd : t.dummies = #[]) (f : Nat → Int) (h : Int) : ∀ (n : Nat) (p : SetTable.Probe), p.dummy = none → ∀ j d, SetTable.probe.go t f h n p = some (.empty j d) → d = none := by
  intro n
  induction n with
  | zero => intro p _ j d h; cases h
  | succ n ih =>
    intro p hp j d h
    have adv : ∀ p : SetTable.Probe, p.dummy = none → (t.advance p).dummy = none := fun p hp => by
      unfold SetTable.advance
      split
      · exact hp
      · exact hp
    unfold SetTable.probe.go at h
    split at h
    · cases h; exact hp
    · rename_i hs
      unfold SetTable.slot at hs
      rw [hd, has_empty] at hs
      dsimp only at hs
      split at hs <;> cases hs
    · split at h
      · cases h
      · exact ih _ (adv p hp) j d h
theorem freeSlot_dummy {t : SetTable} (hd : t.dummies = #[]) {h : Int} {j : Nat} {b : Bool} (e : t.freeSlot h = some (j, b)) : b = false := by
  unfold SetTable.freeSlot at e
  split at e
  · rename_i j' d hp
    have : d = none := probe_dummy hd _ _ _ _ rfl _ _ hp
    subst this
    cases e; rfl
  · cases e
theorem dum_orStandIn {t : SetTable} {n : Nat} (hd : t.dummies = #[]) : (t.orStandIn n).dummies = #[] := by unfold SetTable.orStandIn; split <;> first | exact hd | rfl
theorem dum_layNew {t : SetTable} (hd : t.dummies = #[]) (es : Array (Int × Value)) (h : Int) (x : Value) : (layNew t es h x).2.1.dummies = #[] ∧ (layNew t es h x).2.2.1 = false := by
  unfold layNew
  split
  · rename_i j b e
    refine ⟨dum_orStandIn ?_, freeSlot_dummy hd e⟩
    unfold SetTable.put
    rw [hd, has_empty]
    rfl
  · exact ⟨rfl, rfl⟩
theorem sizeAbove_gt (n : Nat) : ∀ (f s : Nat), n < s * 2 ^ f → n < SetTable.sizeAbove.go n f s := by
  intro f
  induction f with
  | zero => intro s h; simpa [SetTable.sizeAbove.go] using h
  | succ f ih =>
    intro s h
    unfold SetTable.sizeAbove.go
    split
    · exact ih _ (by rw [Nat.mul_assoc, ← Nat.pow_succ']; exact h)
    · rename_i hc; wtm_at "om"
theorem roomy_relayAll (t : SetTable) (es : Array (Int × Value)) (hn : es.size < 4000) (h0 : 0 < es.size) : (relayAll t es (SetTable.grown es.size)).2.1.dummies = #[] ∧ (relayAll t es (SetTable.grown es.size)).2.1.tooFull = false := by
  have hst : (t.standIn es.size).tooFull = false := by
    simp [SetTable.tooFull, SetTable.standIn, SetTable.fill]
    wtm_at "om"
  unfold relayAll
  split
  · rename_i t' order hr
    dsimp only
    split
    · rename_i hc
      simp only [Bool.and_eq_true] at hc
      have hf := hc.2
      have hsz : (order.filterMap (es[·]?)).size = es.size := by
        have hp : List.Perm order.toList (List.range es.size) := List.isPerm_iff.mp (by simp [coversAll] at hc; exact hc.1)
        rw [← Array.length_toList, Array.toList_filterMap, (hp.filterMap _).length_eq, filterMap_getElem?_range, Array.length_toList]
      unfold SetTable.relaid SetTable.laid at hr
      cases hl : SetTable.layClean (SetTable.sizeAbove (SetTable.grown es.size) - 1) (es.map (·.1)) with
      | none => rw [hl] at hr; cases hr
      | some o =>
        rw [hl] at hr
        cases hr
        refine ⟨rfl, ?_⟩
        have hg : SetTable.grown es.size = es.size * 4 := by unfold SetTable.grown; rw [if_neg (by wtm_at "om")]
        have hsa : es.size * 4 < SetTable.sizeAbove (es.size * 4) := sizeAbove_gt _ 64 8 (by wtm_at "om")
        unfold SetTable.fits at hf
        rw [Bool.and_eq_true, beq_iff_eq] at hf
        unfold SetTable.tooFull SetTable.fill
        have hf1 := hf.1.trans hsz
        dsimp only at hf1
        rw [hf1]
        simp only [hg, List.size_toArray, List.length_nil, Nat.add_zero, decide_eq_false_iff_not]
        wtm_at "om"
    · exact ⟨rfl, hst⟩
  · exact ⟨rfl, hst⟩
noncomputable def spo (prog : Program) (w : World) (xs : List Str) (o : Obj) : Prop :=
  o.ExactSet ∧ ∃ es ep t, o.data = .set es ep t ∧ ElemsOf (PySem.strKind prog w) es.toList ∧ (es.toList.map fun e => txtOf e.2).Perm xs ∧ xs.Nodup ∧ t.fits es.size = true ∧ t.led = !w.params.followText "set-order" ∧ (t.plain = true → es.size = 0) ∧ t.dummies = #[] ∧ t.tooFull = false
noncomputable def sps (prog : Program) (w : World) (xs : List Str) : PO := .prd (spo prog w xs)
section
variable {prog : Program} {w : World} {A : Around} {E : Value → Shared → Prop} {C : Cx} {σ σ' σ'' τ : Led} {s : Shared} {a : Addr} {xs : List Str} {x : Str} {t : Tok}
theorem strIs {k : Str} {v : Value} (h : (PySem.strKind prog w).is k v = true) : ∃ t, v = .str k t := Value.isStrOf_shape h
theorem elem_txt {es : List (Int × Value)} (h : ElemsOf (PySem.strKind prog w) es) {e : Int × Value} (he : e ∈ es) : ∃ t, e.2 = .str (txtOf e.2) t ∧ e.1 = (PySem.strKind prog w).hash (txtOf e.2) := by
  obtain ⟨⟨k, hk, hh⟩, _⟩ := h e he
  obtain ⟨t, ht⟩ := strIs hk
  exact ⟨t, by rw [ht]; rfl, by rw [ht]; exact hh⟩
theorem _root_.R3.Upd.refl2 {p p' : PO} (U : Upd a p p' σ σ') : Upd a p' p' σ' σ' := by
  induction U with
  | head => exact .head
  | tail _ ih => exact .tail ih
theorem _root_.R3.Upd.back {p p' : PO} (U : Upd a p p' σ σ') : Upd a p' p σ' σ := by
  induction U with
  | head => exact .head
  | tail _ ih => exact .tail ih
theorem _root_.R3.Upd.ex {p p' : PO} (hm : (a, p) ∈ σ) : ∃ σ', Upd a p p' σ σ' := by
  induction σ with
  | nil => cases hm
  | cons q r ih =>
    rcases List.mem_cons.mp hm with rfl | hm
    · exact ⟨_, .head⟩
    · obtain ⟨σ', U⟩ := ih hm; exact ⟨_, .tail U⟩
theorem _root_.R3.Sat.pin {p : PO} {o : Obj} (S : Sat C σ s) (U : Upd a p (.raw o) σ σ') (ho : s.heap.get? a = some o) : Sat C σ' s :=
  ⟨S.old, S.stat, fun q hq => by
    rcases U.cases S.nd q hq with rfl | ⟨h1, _⟩
    · exact ⟨o, ho, rfl⟩
    · exact S.led q h1,
   fun q hq => by
    rcases U.cases S.nd q hq with rfl | ⟨h1, _⟩
    · exact S.low (a, p) U.mem
    · exact S.low q h1, by rw [U.keys]; exact S.nd, S.os, S.gens, S.gl, S.tk, fun q hq => by rw [U.keys]; exact S.lam q hq⟩
theorem _root_.R3.Sat.unpin {p : PO} {o : Obj} (S : Sat C σ' s) (U : Upd a p (.raw o) σ σ') (hp : p.Of o) : Sat C σ s := by
  have B := U.back
  have key : ∀ q ∈ σ, q = (a, p) ∨ (q ∈ σ' ∧ q.1 ≠ a) := B.cases S.nd
  refine ⟨S.old, S.stat, fun q hq => ?_, fun q hq => ?_, by rw [← U.keys]; exact S.nd, S.os, S.gens, S.gl, S.tk, fun q hq => by rw [← U.keys]; exact S.lam q hq⟩
  · rcases key q hq with rfl | ⟨h1, _⟩
    · obtain ⟨o', ho', e⟩ := S.get B.mem
      have e : o' = o := e
      exact ⟨o, by rw [ho', e], hp⟩
    · exact S.led q h1
  · rcases key q hq with rfl | ⟨h1, _⟩
    · exact S.low (a, .raw o) B.mem
    · exact S.low q h1
theorem newSetP {Q : Value → Shared → Prop} (S : Sat C σ s) (h : ∀ a s', Sat C ((a, sps prog w []) :: σ) s' → Q (.ref a) s') : wpAny (model prog w) A (newSet (.type "set")) Q E s := by
  unfold newSet setsByText
  refine wpAny_bind (wpAny_bind (wpAny_askSetting (wpAny_pure ?_)))
  refine wpAny_newObj_type (h _ _ (S.push (p := sps prog w []) ⟨⟨rfl, rfl, rfl⟩, #[], 0, _, rfl, (fun e he => by simp at he), .refl _, .nil, rfl, rfl, fun _ => rfl, rfl, rfl⟩ rfl s.toks))
theorem setAddP {Q : Bool → Shared → Prop} (S : Sat C σ s) (U : Upd a (sps prog w xs) (sps prog w (if x ∈ xs then xs else xs ++ [x])) σ σ') (hz : xs.length < 3000) (h : ∀ b s', Sat C σ' s' → Q b s') :
    wpAny (model prog w) A (setAddHashed a (.str x t) ((PySem.strKind prog w).hash x)) Q E s := by
  obtain ⟨o, ho, hex, es, ep, tb, hd, hel, hpm, hnd, hf, hled, hpl, hdum, hful⟩ := S.get U.mem
  have hn : es.size = xs.length := by rw [← hpm.length_eq, List.length_map, Array.length_toList]
  have hb : es.size < scanBound := by rw [hn]; show _ < 4096; wtm_at "om"
  have hmem : x ∈ xs ↔ ∃ e ∈ es.toList, (PySem.strKind prog w).is x e.2 = true := by
    rw [← hpm.mem_iff, List.mem_map]
    constructor
    · rintro ⟨e, he, rfl⟩
      obtain ⟨t, e1, _⟩ := elem_txt hel he
      exact ⟨e, he, by rw [e1]; exact strKind_is ..⟩
    · rintro ⟨e, he, hi⟩
      obtain ⟨t, e1⟩ := strIs hi
      exact ⟨e, he, by rw [e1]; rfl⟩
  unfold setAddHashed setAddHashedIn
  refine wpAny_holding (wpAny_bind (wpAny_setState_of ho hd hf ?_))
  dsimp only
  rw [byScan_of rfl hb hel]
  simp only [↓reduceIte]
  unfold setAddByScan
  refine wpAny_bind (wpAny_bind (wpAny_rule (wpAny_bind (wpAny_setScan_of (knd := PySem.strKind prog w) (k := x) (strKind_is ..) ho hd hf hel ?_))))
  cases hr : List.findIdx? (fun e => (PySem.strKind prog w).is x e.2) es.toList with
  | some j =>
    dsimp only
    obtain ⟨hj, hpj, _⟩ := List.findIdx?_eq_some_iff_getElem.mp hr
    have hx : x ∈ xs := hmem.mpr ⟨_, List.getElem_mem hj, hpj⟩
    rw [if_pos hx] at U
    have := U.same S.nd
    subst this
    exact wpAny_pure (wpAny_pure (h _ _ S))
  | none =>
    dsimp only
    have hx : x ∉ xs := fun hx => by
      obtain ⟨e, he, hp⟩ := hmem.mp hx
      have := List.findIdx?_eq_none_iff.mp hr e he
      rw [hp] at this; exact Bool.noConfusion this
    rw [if_neg hx] at U
    have hgw : ∀ (b : Bool) {s₁ : Shared} {Q' : Unit → Shared → Prop}, Q' () s₁ → wpAny (model prog w) A (match b with | true => rule "set.scan.the-table-gave-way" | false => pure ()) Q' E s₁ :=
      fun b s₁ Q' hq => by cases b <;> first | exact wpAny_pure hq | exact wpAny_rule hq
    have hperm := layNew_perm tb es ((PySem.strKind prog w).hash x) (.str x t)
    have hfits := layNew_fits tb es ((PySem.strKind prog w).hash x) (.str x t)
    have hl1 := led_layNew tb es ((PySem.strKind prog w).hash x) (.str x t)
    have hp1 := plain_layNew tb es ((PySem.strKind prog w).hash x) (.str x t)
    have hdm1 := dum_layNew hdum es ((PySem.strKind prog w).hash x) (.str x t)
    generalize layNew tb es ((PySem.strKind prog w).hash x) (.str x t) = Lr at hperm hfits hl1 hp1 hdm1 ⊢
    obtain ⟨es1, t1, wd, gv⟩ := Lr
    dsimp only at hperm hfits hl1 hp1 hdm1 ⊢
    obtain ⟨hdm1, rfl⟩ := hdm1
    rw [Array.toList_push] at hperm
    have hel1 : ElemsOf (PySem.strKind prog w) es1.toList := (hel.push (strKind_is ..) rfl).perm hperm
    have hpm1 : (es1.toList.map fun e => txtOf e.2).Perm (xs ++ [x]) := (hperm.map _).trans (by rw [List.map_append]; exact hpm.append_right _)
    have hnd1 : (xs ++ [x]).Nodup := by
      rw [List.nodup_append]
      exact ⟨hnd, List.pairwise_singleton _ _, fun a ha b hb e => hx (by rw [List.mem_singleton.mp hb] at e; rw [← e]; exact ha)⟩
    have hn1 : es1.size = xs.length + 1 := by rw [← Array.length_toList, hperm.length_eq, List.length_append, Array.length_toList, hn]; rfl
    have fin0 : ∀ (t2 : SetTable) (s₁ : Shared) (o₁ : Obj) ep₁ es₁ t₁, t2.fits es1.size = true → s₁.heap.get? a = some o₁ → o₁.ExactSet → o₁.data = .set es₁ ep₁ t₁ → ∀ Q' : Unit → Shared → Prop, (∀ h', Heap.SameBut a s₁.heap h' → h'.get? a = some { o₁ with data := .set es1 (ep₁ + 1) t2 } → Q' () { s₁ with heap := h' }) → wpAny (model prog w) A (storeSet a es1 t2) Q' E s₁ := by
      intro t2 s₁ o₁ ep₁ es₁ t₁ hf2 ho₁ hex₁ hd₁ Q' hQ'
      refine wpAny_storeSet_of ho₁ hd₁ ?_ (by rw [hn1, sizeLine_eq]; wtm_at "om")
      have hg := (SetOf_store (knd := PySem.strKind prog w) (S' := fun k => decide (∃ e ∈ es1.toList, (PySem.strKind prog w).is k e.2 = true)) ho₁ hex₁ hd₁ hel1 (fun k => by rw [decide_eq_true_eq]) (by rw [hn1]; show _ < 4096; wtm_at "om") hf2).1
      exact hQ' _ (Heap.SameBut.update ..) hg
    have fin : ∀ (es2 : Array (Int × Value)) (t2 : SetTable) (s₁ : Shared) (σ₁ : Led) (p₁ : PO) (o₁ : Obj) ep₁ es₁ t₁, es2.toList.Perm es1.toList → t2.fits es2.size = true → t2.led = tb.led → t2.plain = false → t2.dummies = #[] → t2.tooFull = false → Sat C σ₁ s₁ → Upd a p₁ (sps prog w (xs ++ [x])) σ₁ σ' →
        s₁.heap.get? a = some o₁ → o₁.ExactSet → o₁.data = .set es₁ ep₁ t₁ → ∀ Q' : Unit → Shared → Prop, (∀ s', Sat C σ' s' → s'.heap.get? a = some { o₁ with data := .set es2 (ep₁ + 1) t2 } → Q' () s') → wpAny (model prog w) A (storeSet a es2 t2) Q' E s₁ := by
      intro es2 t2 s₁ σ₁ p₁ o₁ ep₁ es₁ t₁ hp2 hf2 hl2 hpl2 hdm2 hfu2 S₁ U₁ ho₁ hex₁ hd₁ Q' hQ'
      have hel2 : ElemsOf (PySem.strKind prog w) es2.toList := hel1.perm hp2
      have hpm2 := (hp2.map fun e => txtOf e.2).trans hpm1
      have hsz : es2.size = es1.size := by rw [← Array.length_toList, hp2.length_eq, Array.length_toList]
      refine wpAny_storeSet_of ho₁ hd₁ ?_ (by rw [hsz, hn1, sizeLine_eq]; wtm_at "om")
      have hg := (SetOf_store (knd := PySem.strKind prog w) (S' := fun k => decide (∃ e ∈ es2.toList, (PySem.strKind prog w).is k e.2 = true)) ho₁ hex₁ hd₁ hel2 (fun k => by rw [decide_eq_true_eq]) (by rw [hsz, hn1]; show _ < 4096; wtm_at "om") hf2).1
      exact hQ' _ (S₁.set U₁ (Heap.SameBut.update ..) hg ⟨hex₁, es2, _, t2, rfl, hel2, hpm2, hnd1, hf2, by rw [hl2, hled], fun e => (by rw [hpl2] at e; cases e), hdm2, hfu2⟩ s₁.toks (by exact S₁.tk)) hg
    refine wpAny_bind (hgw _ ?_)
    have tail : ∀ t2 : SetTable, t2.fits es1.size = true → t2.led = tb.led → t2.plain = false → t2.dummies = #[] → wpAny (model prog w) A (do
        storeSet a es1 t2
        if (!false && t2.tooFull) = true then do
            (match (relayAll t2 es1 (SetTable.grown es1.size)).2.2 with | true => rule "set.scan.the-table-gave-way" | false => pure ())
            storeSet a (relayAll t2 es1 (SetTable.grown es1.size)).1 (relayAll t2 es1 (SetTable.grown es1.size)).2.1
            pure (some true)
          else pure (some true)) (fun r s' => wpAny (model prog w) A (match r with
      | some added => pure added
      | none => setAddHashedIn a (.str x t) ((PySem.strKind prog w).hash x) 99999) Q E s') E s := by
      intro t2 hf2 hl2 hpl2 hdm2
      cases hfu : t2.tooFull with
      | true =>
        rw [if_pos (by rfl)]
        refine wpAny_bind (fin0 t2 s o ep es tb hf2 ho hex hd _ fun h₁ hs₁ ho₁ => ?_)
        refine wpAny_bind (hgw _ ?_)
        have hrf := roomy_relayAll t2 es1 (by rw [hn1]; wtm_at "om") (by rw [hn1]; wtm_at "om")
        have hp2 := relayAll_perm t2 es1 (SetTable.grown es1.size)
        have hfr := relayAll_fits t2 es1 (SetTable.grown es1.size)
        have hl3 := (led_relayAll t2 es1 (SetTable.grown es1.size)).trans hl2
        have hpl3 := plain_relayAll t2 es1 (SetTable.grown es1.size) hpl2
        generalize relayAll t2 es1 (SetTable.grown es1.size) = Rl at hrf hp2 hfr hl3 hpl3 ⊢
        obtain ⟨es2, t3, g3⟩ := Rl
        dsimp only at hrf hp2 hfr hl3 hpl3 ⊢
        have hel2 : ElemsOf (PySem.strKind prog w) es2.toList := hel1.perm hp2
        have hpm2 := (hp2.map fun e => txtOf e.2).trans hpm1
        have hsz : es2.size = es1.size := by rw [← Array.length_toList, hp2.length_eq, Array.length_toList]
        refine wpAny_bind (wpAny_storeSet_of ho₁ rfl ?_ (by rw [hsz, hn1, sizeLine_eq]; wtm_at "om"))
        have hg := (SetOf_store (knd := PySem.strKind prog w) (S' := fun k => decide (∃ e ∈ es2.toList, (PySem.strKind prog w).is k e.2 = true)) ho₁ hex rfl hel2 (fun k => by rw [decide_eq_true_eq]) (by rw [hsz, hn1]; show _ < 4096; wtm_at "om") hfr).1
        refine wpAny_pure (wpAny_pure (h _ _ (S.set U (hs₁.trans (Heap.SameBut.update ..)) hg ⟨hex, es2, _, t3, rfl, hel2, hpm2, hnd1, hfr, by rw [hl3, hled], fun e => (by rw [hpl3] at e; cases e), hrf.1, hrf.2⟩ s.toks)))
      | false =>
        rw [if_neg (by simp)]
        refine wpAny_bind (fin es1 t2 s σ _ o ep es tb (.refl _) hf2 hl2 hpl2 hdm2 hfu S U ho hex hd _ fun s₁ S₁ ho₁ => ?_)
        exact wpAny_pure (wpAny_pure (h _ _ S₁))
    split
    · refine wpAny_bind ?_
      rw [hashByValue_scannable 8 rfl]
      refine wpAny_pure ?_
      exact tail { t1 with plain := false } (SetTable.fits_plain_off hfits) hl1 rfl hdm1
    · rename_i hnp
      refine wpAny_bind (wpAny_pure ?_)
      simp only [↓reduceIte]
      have : t1.plain = false := by cases h : t1.plain <;> first | rfl | exact absurd h hnp
      exact tail t1 hfits hl1 this hdm1
end
set_option maxHeartbeats 1000000
theorem entry_set_iter : entryFor table "set.__iter__" = some Builtin.«frozenset.__iter__» :=
  entryFor_alias (id' := "frozenset.__iter__") (by kernel_rfl) rfl (by decide +kernel) (by kernel_rfl)
theorem entry_setit_iter : entryFor table "set_iterator.__iter__" = some Builtin.«dict_keyiterator.__iter__» :=
  entryFor_alias (id' := "dict_keyiterator.__iter__") (by kernel_rfl) rfl (by decide +kernel) (by kernel_rfl)
theorem slot_setit_next : Slot "set_iterator" "__next__" "set_iterator.__next__" :=
  .of (owner := "set_iterator") (n := "__next__") (by rw [typeLookup_type, builtinLookup_eq_fast]; kernel_rfl) (by decide +kernel) (by decide +kernel) (by decide +kernel)
    (by first | exact .inl (by decide +kernel) | exact .inr (by decide +kernel)) (by rw [isSubtype_type]; kernel_rfl)
theorem slot_setit_iter : Slot "set_iterator" "__iter__" "set_iterator.__iter__" :=
  .of (owner := "set_iterator") (n := "__iter__") (by rw [typeLookup_type, builtinLookup_eq_fast]; kernel_rfl) (by decide +kernel) (by decide +kernel) (by decide +kernel)
    (by first | exact .inl (by decide +kernel) | exact .inr (by decide +kernel)) (by rw [isSubtype_type]; kernel_rfl)
theorem entry_setit_next : entryFor table "set_iterator.__next__" = some Builtin.«set_iterator.__next__» := entryFor_of_tree (by kernel_rfl)
theorem args_setit_next (a : Value) : argsOk "set_iterator.__next__" ⟨[a], []⟩ := by unfold argsOk; kernel_rfl
theorem slot_set_len' : typeLookup (.type "set") "__len__" = pure (some (.builtin "set.__len__")) := by rw [typeLookup_type, builtinLookup_eq_fast]; kernel_rfl
theorem eraseIdx_perm {α : Type} {l : List α} {i : Nat} (h : i < l.length) : (l[i] :: l.eraseIdx i).Perm l := by
  rw [List.eraseIdx_eq_take_drop_succ]
  have e : l = l.take i ++ l[i] :: l.drop (i + 1) := by rw [List.getElem_cons_drop, List.take_append_drop]
  exact (List.perm_middle.symm.trans (by rw [← e]))
theorem pickGo_perm {α : Type} (next : Nat → Nat) : ∀ (fuel k : Nat) (left : List α) (out : Array α), fuel = left.length → (pickOrder.go next fuel k left out).toList.Perm (out.toList ++ left)
  | 0, k, left, out, h => by
    have : left = [] := List.eq_nil_of_length_eq_zero h.symm
    subst this
    rw [List.append_nil]; exact .refl _
  | fuel + 1, k, left, out, h => by
    unfold pickOrder.go
    have hp : 0 < left.length := by wtm_at "om"
    have hlt : next k % left.length < left.length := Nat.mod_lt _ hp
    rw [List.getElem?_eq_getElem hlt]
    dsimp only
    refine (pickGo_perm next fuel (k + 1) _ _ ?_).trans ?_
    · rw [List.length_eraseIdx, if_pos hlt]; wtm_at "om"
    · rw [Array.toList_push, List.append_assoc]
      refine List.Perm.append_left _ ?_
      exact (eraseIdx_perm hlt)
theorem pickOrder_perm {α : Type} (next : Nat → Nat) (xs : Array α) : (pickOrder next xs).toList.Perm xs.toList := by
  unfold pickOrder
  have := pickGo_perm next xs.size 0 xs.toList #[] (by simp)
  simpa using this
section
variable {prog : Program} {w : World} {A : Around} {E : Value → Shared → Prop} {C : Cx} {σ σ' σ'' τ : Led} {s : Shared} {a it : Addr} {xs : List Str} {x : Str} {t : Tok}
theorem Sat.drawn (S : Sat C σ s) (d : Drawn) : Sat C σ { s with drawn := d } := ⟨S.old, S.stat, S.led, S.low, S.nd, S.os, S.gens, S.gl, S.tk, S.lam⟩
theorem wpAny_drawOrder {Q : List Nat → Shared → Prop} : ∀ (n : Nat) (l : List Nat) (s : Shared), n = l.length → (∀ l' d, l'.Perm l → Q l' { s with drawn := d }) → wpAny (model prog w) A (drawOrder n l) Q E s
  | 0, l, s, hn, h => by
    have : l = [] := List.eq_nil_of_length_eq_zero hn.symm
    subst this
    unfold drawOrder
    exact wpAny_pure (h [] s.drawn (.refl _))
  | n + 1, [], s, hn, h => by simp at hn
  | n + 1, y :: l, s, hn, h => by
    unfold drawOrder
    refine wpAny_bind ?_
    have hpos : (y :: l).length ≠ 0 := by simp
    intro Γ p hΓ
    unfold choose
    rw [Sem.wp_choose]
    refine ⟨hpos, ?_⟩
    rw [Sem.wp_pure]
    revert Γ p hΓ
    generalize hi : (model prog w).w.draws Source.order (s.drawn.get Source.order) % (y :: l).length = i
    have hlt : i < (y :: l).length := by rw [← hi]; exact Nat.mod_lt _ (by simp)
    intro _ _ _
    rw [List.getElem?_eq_getElem hlt]
    show wpAny (model prog w) A (drawOrder n ((y :: l).eraseIdx i) >>= fun r => pure ((y :: l)[i] :: r)) Q E _
    refine wpAny_bind (wpAny_drawOrder n _ _ (by rw [List.length_eraseIdx, if_pos hlt]; wtm_at "om") fun l' d hp => wpAny_pure ?_)
    exact h _ d ((hp.cons _).trans (eraseIdx_perm hlt))
theorem pyNextS {vs : Array Value} {Q : Option Value → Shared → Prop} (ho : s.heap.get? it = some { cls := .type "set_iterator", data := .fields vs })
    (h : wpAny (model prog w) A.in1 (Builtin.«set_iterator.__next__» ⟨[.ref it], []⟩) (fun fin s' => ∃ v, fin = .done (.ret v) ∧ Q (some v) s') (fun e s' => s'.TypeIs e "StopIteration" ∧ Q none s') s) : wpAny (model prog w) A (pyNext (.ref it)) Q E s := by
  have hT : s.TypeIs (.ref it) "set_iterator" := ⟨_, ho, rfl⟩
  unfold pyNext
  refine wpAny_bind (wpAny_attempt (wpAny_callSpecial?_slot (name := Str.ofString "__next__") hT slot_setit_next (wpAny_call_entry slot_setit_next hT entry_setit_next (wpAny_mono h (fun fin s' h' => ?_) fun e s' h' => ?_) (args_setit_next _))))
  · obtain ⟨v, rfl, hv⟩ := h'
    exact ⟨v, rfl, wpAny_pure hv⟩
  · refine wpAny_bind (wpAny_isInstance (T := "StopIteration") (b := true) h'.1 isSubtype_stop ?_)
    exact wpAny_pure h'.2
theorem raiseStop {α : Type} {Q : α → Shared → Prop} {E' : Value → Shared → Prop} (hh : A.handled = none) (S : Sat C σ s) (h : ∀ e s', s'.TypeIs e "StopIteration" → Sat C σ s' → E' e s') : wpAny (model prog w) A (newExc (Value.type "StopIteration") [] >>= fun x => (raiseNew x : Sem α)) Q E' s := by
  refine wpAny_bind ?_
  simp only [newExc, newTuple]
  refine wpAny_bind (wpAny_newObj_type ?_ (by size_fits))
  refine wpAny_bind (m := firstArgMember _ _) (wpAny_of_eq (a := Value.none) (by first | rfl | (simp only [firstArgMember]; rfl)) ?_)
  refine wpAny_newObj_type ?_ (by size_fits)
  simp only [raiseNew]
  refine wpAny_bind (wpAny_handled ?_)
  rw [hh]
  refine wpAny_bind (wpAny_pure ?_)
  exact wpAny_throw (h _ _ ⟨_, Heap.get?_push_size _ rfl, rfl⟩ ((S.push0 _ s.toks).push0 _ s.toks))
noncomputable def setitO (first : Value) (i : Nat) (a : Addr) (n ep : Nat) : Obj := { cls := .type "set_iterator", data := .fields #[first, .int i 0, .ref a, .int n 0, .int ep 0] }
theorem itsText {o : Obj} {es : Array (Int × Value)} {ep : Nat} {tb : SetTable} (hh : A.handled = none) (hd : o.data = .set es ep tb) (hf : tb.fits es.size = true) (ht : w.params.followText "set-order" = true) :
    Its C prog w A it (fun i => .raw (setitO (rawInt 0) i a es.size ep)) ((pickOrder (w.params.setOrder a ep) es).toList.map fun e => er e.2) (fun τ => (a, .raw o) ∈ τ) where
  next := by
    intro i τ s Q E hn S h0 h1
    obtain ⟨oi, hoi, hp⟩ := S.get (.head _)
    have hp : oi = _ := hp
    subst hp
    obtain ⟨oa, ho, hp⟩ := S.get (.tail _ hn)
    have hp : oa = _ := hp
    subst hp
    refine pyNextS hoi ?_
    unfold Builtin.«set_iterator.__next__»
    refine wpAny_bind (wpAny_pure ?_)
    refine wpAny_bind (wpAny_fieldsOf hoi rfl ?_)
    show wpAny _ _ (setEntries a >>= _) _ _ s
    refine wpAny_bind (wpAny_setEntries_of ho hd hf ?_)
    rw [if_neg (by simp)]
    show wpAny _ _ (setNext a (0 : Int).toNat (i : Int).toNat (ep : Int).toNat >>= _) _ _ s
    rw [Int.toNat_natCast, Int.toNat_natCast]
    refine wpAny_bind ?_
    unfold setNext setsByText
    refine wpAny_bind (wpAny_setState_of ho hd hf (wpAny_bind (wpAny_bind (wpAny_askSetting (wpAny_pure ?_)))))
    rw [show (model prog w).w.params.followText "set-order" = true from ht, if_pos rfl, if_neg (by simp)]
    unfold setWalk setsByText
    refine wpAny_bind (wpAny_bind (wpAny_setState_of ho hd hf (wpAny_bind (wpAny_bind (wpAny_askSetting (wpAny_pure ?_))))))
    rw [show (model prog w).w.params.followText "set-order" = true from ht, if_pos rfl]
    refine wpAny_bind (wpAny_askSetting (wpAny_pure (wpAny_pure ?_)))
    cases hx : (pickOrder (w.params.setOrder a ep) es)[i]? with
    | none =>
      dsimp only [model]
      rw [hx]
      show wpAny _ _ (setField (.ref it) 2 .none >>= fun _ => newExc (.type "StopIteration") [] >>= fun x => raiseNew x) _ _ s
      refine wpAny_bind (wpAny_setField hoi rfl (by simp) ?_)
      have S' := S.ext (h' := s.heap.update it _) (Heap.SameBut.update s.heap it (Obj.mapFields (·.setIfInBounds 2 .none))).extBut s.toks
      refine raiseStop hh S' fun e s' hT S'' => ⟨hT, h0 ?_ _ S''⟩
      rw [List.getElem?_map, Array.getElem?_toList, hx]; rfl
    | some e =>
      dsimp only [model]
      rw [hx]
      show wpAny _ _ (setField (.ref it) 0 (rawInt (0 : Nat)) >>= fun _ => setField (.ref it) 1 (rawInt ((i : Int) + 1)) >>= fun _ => ret e.2) _ _ s
      refine wpAny_bind (wpAny_setField_rec hoi (by simp) fun h' hg hs => ?_)
      refine wpAny_bind (wpAny_setField_rec hg (by simp) fun h'' hg' hs' => ?_)
      refine wpAny_pure ⟨_, rfl, h1 (er e.2) e.2 ?_ rfl _ (S.set (.head (p' := .raw (setitO (rawInt 0) (i + 1) a es.size ep))) (hs.trans hs') hg' ?_ s.toks)⟩
      · rw [List.getElem?_map, Array.getElem?_toList, hx]; rfl
      · show _ = _
        unfold setitO
        simp [rawInt]
  self := by
    intro i τ s Q E S h
    obtain ⟨oi, hoi, hp⟩ := S.get (.head _)
    have hp : oi = _ := hp
    subst hp
    refine wpAny_pyIter_slot (T := "set_iterator") ⟨_, hoi, rfl⟩ slot_setit_iter (wpAny_call_entry slot_setit_iter (T := "set_iterator") ⟨_, hoi, rfl⟩ entry_setit_iter ?_ (by unfold argsOk; kernel_rfl))
    exact wpAny_pure ⟨_, rfl, "set_iterator", _, ⟨_, hoi, rfl⟩, slot_setit_next.lookup, h⟩
theorem itsDrawn {o : Obj} {es : Array (Int × Value)} {ep tp : Nat} {tb : SetTable} {l : List Nat} (hh : A.handled = none) (hd : o.data = .set es ep tb) (hf : tb.fits es.size = true) (hl : ∀ i ∈ l, i < es.size) :
    Its C prog w A it (fun i => .raw (setitO (.ref tp) i a es.size ep)) (l.map fun i => ((es[i]?).map fun e => er e.2).getD .none)
      (fun τ => (a, .raw o) ∈ τ ∧ (tp, .raw { cls := .type "tuple", data := .seq (l.map fun (i : Nat) => rawInt i).toArray }) ∈ τ) where
  next := by
    intro i τ s Q E hn S h0 h1
    obtain ⟨oi, hoi, hp⟩ := S.get (.head _)
    have hp : oi = _ := hp
    subst hp
    obtain ⟨oa, ho, hp⟩ := S.get (.tail _ hn.1)
    have hp : oa = _ := hp
    subst hp
    obtain ⟨ot, hot, hp⟩ := S.get (.tail _ hn.2)
    have hp : ot = _ := hp
    subst hp
    refine pyNextS hoi ?_
    unfold Builtin.«set_iterator.__next__»
    refine wpAny_bind (wpAny_pure ?_)
    refine wpAny_bind (wpAny_fieldsOf hoi rfl ?_)
    show wpAny _ _ (setEntries a >>= _) _ _ s
    refine wpAny_bind (wpAny_setEntries_of ho hd hf ?_)
    rw [if_neg (by simp)]
    show wpAny _ _ (seqItems? (.ref tp) >>= _) _ _ s
    refine wpAny_bind (wpAny_seqItems hot rfl ?_)
    dsimp only
    rw [Int.toNat_natCast, List.getElem?_toArray, List.getElem?_map]
    cases hx : l[i]? with
    | none =>
      rw [Option.map_none]
      show wpAny _ _ (setField (.ref it) 0 (rawInt 0) >>= fun _ => setField (.ref it) 2 .none >>= fun _ => newExc (.type "StopIteration") [] >>= fun x => raiseNew x) _ _ s
      refine wpAny_bind (wpAny_setField_rec hoi (by simp) fun h' hg hs => ?_)
      refine wpAny_bind (wpAny_setField_rec hg (by simp) fun h'' hg' hs' => ?_)
      refine raiseStop hh (S.ext (hs.trans hs').extBut s.toks) fun e s' hT S'' => ⟨hT, h0 ?_ _ S''⟩
      rw [List.getElem?_map, hx]; rfl
    | some p =>
      have hp := hl p (List.mem_of_getElem? hx)
      rw [Option.map_some]
      show wpAny _ _ (setNextDrawn a (p : Int).toNat (ep : Int).toNat >>= fun x => setField (.ref it) 1 (rawInt ((i : Int) + 1)) >>= fun _ => ret x) _ _ s
      rw [Int.toNat_natCast, Int.toNat_natCast]
      refine wpAny_bind ?_
      unfold setNextDrawn
      refine wpAny_bind (wpAny_setState_of ho hd hf ?_)
      dsimp only
      rw [if_neg (by simp), Array.getElem?_eq_getElem hp]
      refine wpAny_pure ?_
      refine wpAny_bind (wpAny_setField_rec hoi (by simp) fun h' hg hs => ?_)
      refine wpAny_pure ⟨_, rfl, h1 (er es[p].2) es[p].2 ?_ rfl _ (S.set (.head (p' := .raw (setitO (.ref tp) (i + 1) a es.size ep))) hs hg ?_ s.toks)⟩
      · rw [List.getElem?_map, hx, Option.map_some, Array.getElem?_eq_getElem hp]; rfl
      · show _ = _
        unfold setitO
        simp [rawInt]
  self := by
    intro i τ s Q E S h
    obtain ⟨oi, hoi, hp⟩ := S.get (.head _)
    have hp : oi = _ := hp
    subst hp
    refine wpAny_pyIter_slot (T := "set_iterator") ⟨_, hoi, rfl⟩ slot_setit_iter (wpAny_call_entry slot_setit_iter (T := "set_iterator") ⟨_, hoi, rfl⟩ entry_setit_iter ?_ (by unfold argsOk; kernel_rfl))
    exact wpAny_pure ⟨_, rfl, "set_iterator", _, ⟨_, hoi, rfl⟩, slot_setit_next.lookup, h⟩
theorem arr_one {α : Type} {a : Array α} (h : a.size = 1) : ∃ x, a = #[x] := by
  obtain ⟨l⟩ := a
  cases l with
  | nil => cases h
  | cons x r => cases r with
    | nil => exact ⟨x, rfl⟩
    | cons _ _ => simp at h
theorem itsOne {o : Obj} {es : Array (Int × Value)} {ep : Nat} {tb : SetTable} (hh : A.handled = none) (hd : o.data = .set es ep tb) (hf : tb.fits es.size = true) (ht : w.params.followText "set-order" = false) (hled : tb.led = true) (h1 : es.size ≤ 1) :
    Its C prog w A it (fun i => .raw (setitO (rawInt (if i = 0 then 0 else (tb.place.getD 0 0 + 1 : Nat))) i a es.size ep)) (es.toList.map fun e => er e.2) (fun τ => (a, .raw o) ∈ τ) where
  next := by
    intro i τ s Q E hn S h0 h2
    obtain ⟨oi, hoi, hp⟩ := S.get (.head _)
    have hp : oi = _ := hp
    subst hp
    obtain ⟨oa, ho, hp⟩ := S.get (.tail _ hn)
    have hp : oa = _ := hp
    subst hp
    have hpl : tb.place.size = es.size := by
      unfold SetTable.fits at hf
      rw [Bool.and_eq_true, beq_iff_eq] at hf
      exact hf.1
    refine pyNextS hoi ?_
    unfold Builtin.«set_iterator.__next__»
    refine wpAny_bind (wpAny_pure ?_)
    refine wpAny_bind (wpAny_fieldsOf hoi rfl ?_)
    show wpAny _ _ (setEntries a >>= _) _ _ s
    refine wpAny_bind (wpAny_setEntries_of ho hd hf ?_)
    rw [if_neg (by simp)]
    generalize hsl : (if i = 0 then (0 : Int) else (tb.place.getD 0 0 + 1 : Nat)) = sl at hoi
    show wpAny _ _ (setNext a sl.toNat (i : Int).toNat (ep : Int).toNat >>= _) _ _ s
    refine wpAny_bind ?_
    unfold setNext setsByText
    refine wpAny_bind (wpAny_setState_of ho hd hf (wpAny_bind (wpAny_bind (wpAny_askSetting (wpAny_pure ?_)))))
    rw [show (model prog w).w.params.followText "set-order" = false from ht, if_neg Bool.false_ne_true]
    show wpAny _ _ (if (!tb.plain && decide (es.size > 1)) = true then _ else _) _ _ s
    rw [if_neg (by rw [decide_eq_false (by wtm_at "om")]; simp)]
    refine wpAny_bind (m := ite _ _ _) ?_
    show wpAny _ _ (if (!tb.led && !es.isEmpty) = true then _ else _) _ _ s
    rw [if_neg (by rw [hled]; simp)]
    refine wpAny_pure (wpAny_pure ?_)
    by_cases hz : es.size = 1 ∧ i = 0
    · obtain ⟨hz, rfl⟩ := hz
      rw [if_pos rfl] at hsl
      subst hsl
      obtain ⟨j, hj⟩ : ∃ j, tb.place = #[j] := arr_one (hpl.trans hz)
      obtain ⟨e, he⟩ : ∃ e, es = #[e] := arr_one hz
      have hb : SetTable.below tb.place (0 : Int).toNat = 0 := by rw [hj]; simp [SetTable.below, SetTable.below.go]
      rw [hb, hj, he]
      show wpAny _ _ (setField (.ref it) 0 (rawInt ((j + 1 : Nat) : Int)) >>= fun _ => setField (.ref it) 1 (rawInt (((0 : Nat) : Int) + 1)) >>= fun _ => ret e.2) _ _ s
      refine wpAny_bind (wpAny_setField_rec hoi (by simp) fun h' hg hs => ?_)
      refine wpAny_bind (wpAny_setField_rec hg (by simp) fun h'' hg' hs' => ?_)
      refine wpAny_pure ⟨_, rfl, h2 (er e.2) e.2 (by rw [he]; rfl) rfl _ (S.set (.head (p' := .raw (setitO (rawInt (if (0 + 1 : Nat) = 0 then 0 else (tb.place.getD 0 0 + 1 : Nat))) (0 + 1) a es.size ep))) (hs.trans hs') hg' ?_ s.toks)⟩
      show _ = _
      unfold setitO
      rw [hj]
      simp [rawInt]
    · have hplace : tb.place[SetTable.below tb.place sl.toNat]? = none := by
          rw [Array.getElem?_eq_none_iff]
          by_cases he : es.size = 0
          · rw [hpl, he]; exact Nat.zero_le _
          · have hz1 : es.size = 1 := by wtm_at "om"
            have hi : i ≠ 0 := fun e => hz ⟨hz1, e⟩
            rw [if_neg hi] at hsl
            subst hsl
            obtain ⟨j, hj⟩ : ∃ j, tb.place = #[j] := arr_one (hpl.trans hz1)
            rw [hj]
            have e1 : ((((#[j] : Array Nat).getD 0 0 + 1 : Nat) : Int)).toNat = j + 1 := by simp
            rw [e1]
            simp [SetTable.below, SetTable.below.go]
      rw [hplace]
      have K : wpAny (model prog w) A.in1 (setField (.ref it) 2 .none >>= fun _ => newExc (.type "StopIteration") [] >>= fun x => (raiseNew x : Sem PySem.Fin)) (fun fin s' => ∃ v, fin = PySem.Fin.done (.ret v) ∧ Q (some v) s') (fun e s' => s'.TypeIs e "StopIteration" ∧ Q none s') s := by
        refine wpAny_bind (wpAny_setField_rec hoi (by simp) fun h' hg hs => ?_)
        refine raiseStop hh (S.ext hs.extBut s.toks) fun e s' hT S'' => ⟨hT, h0 ?_ _ S''⟩
        rw [List.getElem?_eq_none_iff, List.length_map, Array.length_toList]
        wtm_at "om"
      cases es[SetTable.below tb.place sl.toNat]? <;> exact K
  self := by
    intro i τ s Q E S h
    obtain ⟨oi, hoi, hp⟩ := S.get (.head _)
    have hp : oi = _ := hp
    subst hp
    refine wpAny_pyIter_slot (T := "set_iterator") ⟨_, hoi, rfl⟩ slot_setit_iter (wpAny_call_entry slot_setit_iter (T := "set_iterator") ⟨_, hoi, rfl⟩ entry_setit_iter ?_ (by unfold argsOk; kernel_rfl))
    exact wpAny_pure ⟨_, rfl, "set_iterator", _, ⟨_, hoi, rfl⟩, slot_setit_next.lookup, h⟩
end
set_option maxHeartbeats 1000000
section
variable {prog : Program} {w : World} {A : Around} {E : Value → Shared → Prop} {C : Cx} {σ σ' σ'' τ : Led} {s : Shared} {a it D : Addr} {xs : List Str} {x : Str} {t : Tok}
theorem iterP {Q : Value → Shared → Prop} (S : Sat C σ s) (ha : (a, sps prog w xs) ∈ σ) (hz : xs.length < 3000)
    (h : ∀ ys it po need σ₁ extra o s', ys.Perm xs → (∀ A : Around, A.handled = none → Its C prog w A it po (txts ys) need) → Upd a (sps prog w xs) (.raw o) σ σ₁ → (sps prog w xs).Of o → (∀ τ, (∀ q ∈ extra, q ∈ τ) → (a, .raw o) ∈ τ → need τ) → (∀ q τ, need τ → need (q :: τ)) →
      Sat C ((it, po 0) :: (extra ++ σ₁)) s' → Q (.ref it) s') :
    wpAny (model prog w) A (pyIter (.ref a)) Q E s := by
  obtain ⟨o, ho, hsp⟩ := S.get ha
  obtain ⟨hex, es, ep, tb, hd, hel, hpm, hnd, hf, hled, hpl, _, _⟩ := id hsp
  have hn : es.size = xs.length := by rw [← hpm.length_eq, List.length_map, Array.length_toList]
  have hT : s.TypeIs (.ref a) "set" := ⟨o, ho, hex.1⟩
  obtain ⟨σ₁, U⟩ := Upd.ex (p' := .raw o) ha
  have S₁ := S.pin U ho
  have back : ∀ s'', Sat C σ₁ s'' → Sat C σ s'' := fun s'' S'' => S''.unpin U hsp
  have ha₁ := U.back.mem
  have txt : ∀ l : List (Int × Value), (∀ e ∈ l, e ∈ es.toList) → (l.map fun e => er e.2) = txts (l.map fun e => txtOf e.2) := fun l hl => by
    show _ = List.map _ (List.map _ l)
    rw [List.map_map]
    refine List.map_congr_left fun e he => ?_
    obtain ⟨t, e1, _⟩ := elem_txt hel (hl e he)
    show er e.2 = Value.str (txtOf e.2) 0
    rw [e1]; rfl
  refine wpAny_pyIter_slot hT F.slot_set_iter (wpAny_call_entry F.slot_set_iter hT entry_set_iter ?_ (F.args_set_iter_1 _))
  have fin : ∀ (first : Value) (s₁ : Shared) (po : Nat → PO) (P : Shared → Prop), s₁.heap.get? a = some o → (P { s₁ with heap := s₁.heap.push (setitO first 0 a es.size ep) } → Q (.ref s₁.heap.objs.size) { s₁ with heap := s₁.heap.push (setitO first 0 a es.size ep) }) → P { s₁ with heap := s₁.heap.push (setitO first 0 a es.size ep) } →
      wpAny (model prog w) A.in1 (setEpoch a >>= fun e => newFields "set_iterator" [first, rawInt 0, .ref a, rawInt es.size, rawInt e] >>= fun v => ret v) (fun fin s' => ∃ v, fin = PySem.Fin.done (.ret v) ∧ ∃ T' r, s'.TypeIs v T' ∧ typeLookup (.type T') "__next__" = pure (some r) ∧ Q v s') E s₁ := by
    intro first s₁ po P ho₁ hP h₀
    refine wpAny_bind (wpAny_setEpoch_of ho₁ hd hf ?_)
    unfold newFields
    refine wpAny_bind (wpAny_newObj_type ?_)
    exact wpAny_pure ⟨_, rfl, "set_iterator", _, ⟨_, Heap.get?_push_size _ rfl, rfl⟩, slot_setit_next.lookup, hP h₀⟩
  unfold Builtin.«frozenset.__iter__»
  refine wpAny_bind (m := Builtin.Frozenset.slot0 _ _) (wpAny_pure ?_)
  refine wpAny_bind (m := Builtin.Frozenset.sizeOf a) ?_
  unfold Builtin.Frozenset.sizeOf
  refine wpAny_bind (wpAny_setEntries_of ho hd hf (wpAny_pure ?_))
  refine wpAny_bind (m := setDrawn a) ?_
  unfold setDrawn setsByText
  refine wpAny_bind (wpAny_setState_of ho hd hf (wpAny_bind (wpAny_bind (wpAny_askSetting (wpAny_pure ?_)))))
  refine wpAny_pure ?_
  show wpAny _ _ (if (!w.params.followText "set-order" && (!tb.plain && decide (es.size > 1))) = true then (drawOrder es.size (List.range es.size) >>= fun l => newTuple (l.map fun (i : Nat) => rawInt i) >>= fun first => setEpoch a >>= fun e => newFields "set_iterator" [first, rawInt 0, .ref a, rawInt es.size, rawInt e] >>= fun v => ret v)
    else (pure (rawInt 0) >>= fun first => setEpoch a >>= fun e => newFields "set_iterator" [first, rawInt 0, .ref a, rawInt es.size, rawInt e] >>= fun v => ret v)) _ _ s
  cases hbt : w.params.followText "set-order" with
  | true =>
    rw [if_neg (by simp)]
    refine wpAny_bind (wpAny_pure (fin (rawInt 0) s (fun _ => .cel none) (fun s' => Sat C ((s.heap.objs.size, .raw (setitO (rawInt 0) 0 a es.size ep)) :: σ₁) s') ho (fun S' => ?_) (S₁.push (p := .raw (setitO (rawInt 0) 0 a es.size ep)) (o := setitO (rawInt 0) 0 a es.size ep) rfl rfl s.toks)))
    have hpo := pickOrder_perm (w.params.setOrder a ep) es
    refine h ((pickOrder (w.params.setOrder a ep) es).toList.map fun e => txtOf e.2) _ (fun i => .raw (setitO (rawInt 0) i a es.size ep)) (fun τ => (a, .raw o) ∈ τ) σ₁ [] o _ ((hpo.map _).trans hpm) (fun A hh => ?_) U hsp (fun τ _ hm => hm) (fun q τ => List.mem_cons_of_mem _) S'
    rw [← txt _ fun e he => hpo.mem_iff.mp he]
    exact itsText hh hd hf hbt
  | false =>
    have hled' : tb.led = true := by rw [hled, hbt]; rfl
    by_cases h1 : es.size ≤ 1
    · rw [if_neg (by rw [decide_eq_false (by wtm_at "om")]; simp)]
      refine wpAny_bind (wpAny_pure (fin (rawInt 0) s (fun _ => .cel none) (fun s' => Sat C ((s.heap.objs.size, .raw (setitO (rawInt 0) 0 a es.size ep)) :: σ₁) s') ho (fun S' => ?_) (S₁.push (p := .raw (setitO (rawInt 0) 0 a es.size ep)) (o := setitO (rawInt 0) 0 a es.size ep) rfl rfl s.toks)))
      refine h (es.toList.map fun e => txtOf e.2) _ (fun i => .raw (setitO (rawInt (if i = 0 then 0 else (tb.place.getD 0 0 + 1 : Nat))) i a es.size ep)) (fun τ => (a, .raw o) ∈ τ) σ₁ [] o _ hpm (fun A hh => ?_) U hsp (fun τ _ hm => hm) (fun q τ => List.mem_cons_of_mem _) S'
      rw [← txt _ fun e he => he]
      exact itsOne hh hd hf hbt hled' h1
    · have hp : tb.plain = false := by cases hp : tb.plain <;> first | rfl | exact absurd (hpl hp) (by wtm_at "om")
      rw [if_pos (by rw [hp, decide_eq_true (by wtm_at "om")]; rfl)]
      refine wpAny_bind (wpAny_drawOrder _ _ _ (by simp) fun l d hl => ?_)
      refine wpAny_bind (wpAny_newTuple ?_ (by rw [List.length_map, hl.length_eq, List.length_range, hn, sizeLine_eq]; wtm_at "om"))
      have S₂ := ((S₁.drawn d).push (p := .raw { cls := .type "tuple", data := .seq (l.map fun (i : Nat) => rawInt i).toArray }) rfl rfl s.toks)
      refine fin (.ref s.heap.objs.size) _ (fun _ => .cel none) (fun s' => Sat C (((s.heap.push { cls := .type "tuple", data := .seq (l.map fun (i : Nat) => rawInt i).toArray }).objs.size, .raw (setitO (.ref s.heap.objs.size) 0 a es.size ep)) :: (s.heap.objs.size, .raw { cls := .type "tuple", data := .seq (l.map fun (i : Nat) => rawInt i).toArray }) :: σ₁) s') (Heap.get?_push_of_some _ ho) (fun S' => ?_) (S₂.push (p := .raw (setitO (.ref s.heap.objs.size) 0 a es.size ep)) (o := setitO (.ref s.heap.objs.size) 0 a es.size ep) rfl rfl s.toks)
      have hlt : ∀ i ∈ l, i < es.size := fun i hi => List.mem_range.mp (hl.mem_iff.mp hi)
      have hpy : (l.filterMap fun i => es[i]?).Perm es.toList := (hl.filterMap _).trans (by rw [filterMap_getElem?_range])
      have hfm : (l.map fun i => ((es[i]?).map fun e => er e.2).getD .none) = ((l.filterMap fun i => es[i]?).map fun e => er e.2) := by
        clear hl hpy S₂ S'
        induction l with
        | nil => rfl
        | cons i r ih =>
          have hi := hlt i (.head _)
          rw [List.map_cons, List.filterMap_cons, Array.getElem?_eq_getElem hi, ih fun j hj => hlt j (.tail _ hj)]
          rfl
      refine h ((l.filterMap fun i => es[i]?).map fun e => txtOf e.2) _ (fun i => .raw (setitO (.ref s.heap.objs.size) i a es.size ep)) (fun τ => (a, PO.raw o) ∈ τ ∧ (s.heap.objs.size, PO.raw { cls := .type "tuple", data := .seq (l.map fun (i : Nat) => rawInt i).toArray }) ∈ τ) σ₁ [(s.heap.objs.size, .raw { cls := .type "tuple", data := .seq (l.map fun (i : Nat) => rawInt i).toArray })] o _ ((hpy.map _).trans hpm) (fun A hh => ?_) U hsp (fun τ hx hm => ⟨hm, hx _ (.head _)⟩) (fun q τ hn => ⟨List.mem_cons_of_mem _ hn.1, List.mem_cons_of_mem _ hn.2⟩) S'
      rw [← txt _ fun e he => hpy.mem_iff.mp he, ← hfm]
      exact itsDrawn hh hd hf hlt
theorem extLoop {po : Nat → PO} {zs : List Value} {need : Led → Prop} {res : Value} {R : Result → Shared → Prop} (I : Its C prog w A.in1 it po zs need) (hneed : ∀ q τ, need τ → need (q :: τ)) (hz : zs.length ≤ 100000) :
    ∀ k i acc s, zs.length - i = k → i ≤ zs.length → acc.length = i → need τ → Sat C ((it, po i) :: (D, .lst acc) :: τ) s → (∀ s', Sat C ((D, .lst (acc ++ zs.drop i)) :: τ) s' → R (.ok (.ret res)) s') →
      codeAny (model prog w) A (.builtin "list.extend.loop" ⟨[.ref D, .ref it, res], []⟩) R s := by
  intro k
  induction k with
  | zero =>
    intro i acc s hk hi hacc hn S h
    refine codeAny_builtin PySem.F.entry_extend_loop ?_
    rw [Around.under_plainId PySem.F.plain_extend_loop _]
    show wpAny _ A.in1 (pyNext (.ref it) >>= _) _ _ s
    have hx : zs[i]? = none := by rw [List.getElem?_eq_none_iff]; wtm_at "om"
    refine wpAny_bind (I.next (hneed _ _ hn) S (fun _ s' S' => ?_) fun p v hp => ?_)
    · refine wpAny_pure (h s' ?_)
      rw [List.drop_eq_nil_iff.mpr (by wtm_at "om"), List.append_nil]; exact S'
    · rw [hx] at hp; cases hp
  | succ k ih =>
    intro i acc s hk hi hacc hn S h
    refine codeAny_builtin PySem.F.entry_extend_loop ?_
    rw [Around.under_plainId PySem.F.plain_extend_loop _]
    show wpAny _ A.in1 (pyNext (.ref it) >>= _) _ _ s
    have hlt : i < zs.length := by wtm_at "om"
    refine wpAny_bind (I.next (hneed _ _ hn) S (fun hx => ?_) fun p v hp hv s' S' => ?_)
    · rw [List.getElem?_eq_none_iff] at hx; wtm_at "om"
    dsimp only
    obtain ⟨its, n, ho, he⟩ := S'.lst (.tail _ (.head _))
    have hl := lst_len he
    show wpAny _ _ (updateSeq D (·.push v) >>= fun _ => again (.builtin "list.extend.loop" ⟨[.ref D, .ref it, res], []⟩)) _ _ s'
    refine wpAny_bind (wpAny_updateSeq (hz := by rw [sizeLine_eq]; wtm_at "om") (_hz' := by rw [Array.size_push, sizeLine_eq]; wtm_at "om") ho rfl ?_)
    have S₂ := S'.upd (.tail (.head (p' := .lst (acc ++ [er v])))) (f := Obj.mapSeq (·.push v)) ho (by
      obtain ⟨c, hc⟩ := mapSeq_at (its := its) (n := n) (·.push v)
      rw [hc]; exact lst_of (by rw [Array.toList_push, List.map_append, he]; rfl)) rfl s'.toks
    refine wpAny_pure ⟨plainId_quiet PySem.F.plain_extend_loop _, ih (i + 1) (acc ++ [er v]) _ (by wtm_at "om") hlt (by rw [List.length_append, hacc]; rfl) hn S₂ fun s'' S'' => h s'' ?_⟩
    have e : zs.drop i = er v :: zs.drop (i + 1) := by
      rw [List.drop_eq_getElem_cons hlt, (List.getElem?_eq_some_iff.mp hp).2, hv]
    rw [e]
    rw [List.append_assoc] at S''
    exact S''
theorem hint_set (hT : s.TypeIs (.ref a) "set") {Q : Bool → Shared → Prop} (h : Q false s) : wpAny (model prog w) A (Builtin.List.listLengthHint (.ref a)) Q E s := by
  unfold Builtin.List.listLengthHint
  refine wpAny_bind (wpAny_specialOf hT slot_set_len' ?_)
  generalize hid : ("set.__len__" : String) = id0
  wp_delta
  rw [show splitId id0 = some ("set", "__len__") from by subst hid; decide +kernel]
  subst hid
  refine wpAny_bind (wpAny_isInstance (T := "set") (b := true) hT (by rw [isSubtype_type]; kernel_rfl) ?_)
  refine wpAny_ite_split (fun hab => absurd hab (by decide)) (fun _ => ?_)
  refine wpAny_ite_split (fun _ => ?_) (fun hab => absurd (by decide +kernel) hab)
  refine wpAny_bind (wpAny_typeOf hT ?_)
  exact wpAny_pure h
theorem collectP {Q : List Value → Shared → Prop} (S : Sat C σ s) (ha : (a, sps prog w xs) ∈ σ) (hz : xs.length < 3000) (hh : A.handled = none)
    (h : ∀ ys vs s', ys.Perm xs → vs.map er = txts ys → Sat C σ s' → Q vs s') : wpAny (model prog w) A (collect (.ref a)) Q E s := by
  unfold collect
  refine wpAny_bind (wpAny_runValue (codeAny_builtin entry_proto_collect' ?_))
  rw [Around.under_plainId PySem.F.plain_proto_collect _]
  show wpAny _ A.in1 (newList [] >>= fun l => again (.builtin "list.__iadd__" ⟨[l, .ref a], []⟩)) _ _ s
  refine wpAny_bind (wpAny_newObj_type ?_)
  have S₀ := S.push (p := .lst []) (o := { cls := .type "list", data := .seq ([] : List Value).toArray }) (lst_of rfl) rfl s.toks
  generalize hD : s.heap.objs.size = D at S₀
  generalize hs₀ : ({ s with heap := s.heap.push { cls := .type "list", data := .seq ([] : List Value).toArray } } : Shared) = s₀ at S₀ ⊢
  refine wpAny_pure ⟨plainId_quiet PySem.F.plain_list_iadd _, codeAny_builtin entry_list_iadd' ?_⟩
  rw [Around.under_plainId PySem.F.plain_list_iadd _]
  show wpAny _ A.in1 (Builtin.List.listExtendWith (.ref D) (.ref a) (.ref D)) _ _ s₀
  unfold Builtin.List.listExtendWith
  obtain ⟨o, ho, hex, _⟩ := S₀.get (.tail _ ha)
  have hT : s₀.TypeIs (.ref a) "set" := ⟨o, ho, hex.1⟩
  have hDa : D ≠ a := fun e => by
    have nd := S₀.nd
    rw [List.map_cons, List.nodup_cons] at nd
    exact nd.1 (e ▸ List.mem_map_of_mem (f := (·.1)) ha)
  refine wpAny_bind (wpAny_typeOf hT ?_)
  have h1 : Builtin.List.listSameRef (.ref D) (.ref a) = false := by simp [Builtin.List.listSameRef, hDa]
  have h2 : (Value.type "set" == Value.type "list") = false := by decide
  have h3 : (Value.type "set" == Value.type "tuple") = false := by decide
  simp only [h1, h2, h3, Bool.or_false, Bool.false_eq_true, if_false]
  refine wpAny_bind (iterP S₀ (.tail _ ha) hz fun ys it po need σ₁ extra o' s₁ hp I U ho' hnd hneed S₁ => ?_)
  cases U with
  | tail U =>
    rename_i σ₂
    have hoa : (a, PO.raw o') ∈ (it, po 0) :: (extra ++ (D, PO.lst []) :: σ₂) := .tail _ (List.mem_append_right _ (.tail _ U.back.mem))
    have hT₁ : s₁.TypeIs (.ref a) "set" := by
      obtain ⟨o2, ho2, e⟩ := S₁.get hoa
      have e : o2 = o' := e
      subst e
      exact ⟨o2, ho2, ho'.1.1⟩
    have S₂ : Sat C ((it, po 0) :: (D, .lst []) :: (extra ++ σ₂)) s₁ := S₁.perm (List.Perm.cons _ List.perm_middle)
    have loop : ∀ s₃, Sat C ((it, po 0) :: (D, .lst []) :: (extra ++ σ₂)) s₃ → codeAny (model prog w) A (.builtin "list.extend.loop" ⟨[.ref D, .ref it, .ref D], []⟩) (fun r s' => match r with
        | .ok (.ret v) => wpAny (model prog w) A (match v with
          | .ref a => (do match (← load a).data with | .seq xs _ => pure xs.toList | _ => unsupported "internal:collect")
          | _ => unsupported "internal:collect") Q E s'
        | _ => False) s₃ := fun s₃ S₃ => by
      refine extLoop (I A.in1 hh) hneed (by rw [List.length_map, hp.length_eq]; wtm_at "om") _ 0 [] s₃ rfl (Nat.zero_le _) rfl (hnd _ (fun q hq => List.mem_append_left _ hq) (List.mem_append_right _ U.back.mem)) S₃ fun s₄ S₄ => ?_
      obtain ⟨its, n, ho4, he⟩ := S₄.lst (.head _)
      show wpAny _ _ (load D >>= _) _ _ s₄
      refine wpAny_bind (wpAny_load ho4 ?_)
      refine wpAny_pure (h ys its.toList s₄ hp he ?_)
      have S₅ : Sat C σ₂ s₄ := S₄.sub ((List.sublist_append_right _ _).trans (List.sublist_cons_self _ _))
      exact S₅.unpin U ho'
    refine wpAny_bind (wpAny_holding (hint_set hT₁ ?_))
    refine wpAny_ite_split (fun _ => ?_) (fun _ => wpAny_pure ⟨plainId_quiet PySem.F.plain_extend_loop _, ?_⟩)
    · refine wpAny_bind (wpAny_rule ?_)
      refine wpAny_bind ?_
      obtain ⟨its, n, hoD, he⟩ := S₂.lst (.tail _ (.head _))
      have hits : its = #[] := by
        have := lst_len he
        exact Array.eq_empty_of_size_eq_zero this
      subst hits
      show wpAny _ _ (updateSeq D (·.push .none) >>= fun _ => updateSeq D (·.pop)) _ _ _
      refine wpAny_bind (wpAny_updateSeq hoD rfl ?_)
      have hS₂ := Heap.get?_update_self (Obj.mapSeq (·.push Value.none)) hoD rfl
      refine wpAny_updateSeq hS₂ rfl ?_
      have hS₃ := Heap.get?_update_self (Obj.mapSeq (·.pop)) hS₂ rfl
      refine wpAny_pure ⟨plainId_quiet PySem.F.plain_extend_loop _, ?_⟩
      have S₃ := S₂.set (.tail (.head (p' := .lst []))) ((Heap.SameBut.update _ D _).trans (Heap.SameBut.update _ D _)) hS₃ ⟨_, _, rfl, rfl⟩ s₁.toks
      exact codeAny_mono (loop _ S₃) fun r s' hr => by
        cases r with
        | error e => exact hr.elim
        | ok f => cases f <;> exact hr
    · exact codeAny_mono (loop _ S₂) fun r s' hr => by
        cases r with
        | error e => exact hr.elim
        | ok f => cases f <;> exact hr
end
set_option maxHeartbeats 1000000
section
variable {prog : Program} {w : World} {A : Around} {E : Value → Led → Prop} {C : Cx} {σ σ' σ'' τ : Led} {s : Shared} {a it D q : Addr} {xs : List Str} {x : Str} {t : Tok}
theorem T_sorted1 {Q : Value → Led → Prop} (ha : (a, sps prog w [x]) ∈ σ) (hh : A.handled = none)
    (hkey : ∀ ρ t, T prog w C A.in1.in1 (ρ ++ σ) (call (.ref q) [.str x t]) (fun _ σ' => (ρ ++ σ).Sublist σ') NoE) (h : ∀ D, Q (.ref D) ((D, .lst [.str x 0]) :: σ)) :
    T prog w C A σ (call (.builtin "sorted") [.ref a] [(Str.ofString "key", .ref q)]) Q E := by
  intro s S
  refine call_function_entry_kw kind_sorted plain_sorted entry_sorted (ksk_s1 _ _) ?_
  unfold Builtin.«sorted»
  refine wpAny_bind (m := checkCount "sorted" 1 1 _) (wpAny_pure ?_)
  refine wpAny_bind (collectP S ha (by show 1 < 3000; decide) hh fun ys vs s₁ hp hv S₁ => ?_)
  have hys : ys = [x] := List.perm_singleton.mp hp
  subst hys
  have hv1 : vs.length = 1 := by
    have := congrArg List.length hv
    rw [List.length_map] at this
    exact this
  obtain ⟨v, rfl⟩ := List.length_eq_one_iff.mp hv1
  have hve : er v = .str x 0 := by injection hv
  obtain ⟨t, rfl⟩ := er_str hve
  refine wpAny_bind (wpAny_newList ?_ (by show 1 ≤ _; rw [sizeLine_eq]; decide))
  generalize hD : s₁.heap.objs.size = D
  have hso : ∀ (n : Nat) (l : Array Value), (seqObj "list" l n) = { cls := .type "list", data := .seq l n } := fun _ _ => rfl
  have S₂ := S₁.push (p := .raw (seqObj "list" #[.str x t] 0)) (o := seqObj "list" #[.str x t] 0) rfl rfl s₁.toks
  rw [hD] at S₂
  generalize hs₂ : ({ s₁ with heap := s₁.heap.push (seqObj "list" #[.str x t] 0) } : Shared) = s₂ at S₂ ⊢
  obtain ⟨o, hoD, e⟩ := S₂.get (.head _)
  have e : o = _ := e
  subst e
  refine wpAny_bind (wpAny_holding (wpAny_call_entry_kw slot_list_sort ⟨_, hoD, rfl⟩ entry_list_sort ?body (ksk_l1 _ _)))
  rw [ksk_t1]
  unfold ksk_tree
  refine wpAny_bind (listItems_at hoD rfl ?_)
  refine wpAny_bind (listUpdate_at hoD rfl ?_ (by show 1 ≤ _; rw [sizeLine_eq]; decide) (by show 0 ≤ _; wtm_at "om"))
  have hg := get?_update_seq hoD fun _ => (#[] : Array Value)
  generalize hc : (if (#[] : Array Value).size == #[Value.str x t].size then 0 else 0 + 1) = c at hg
  have S₃ := S₂.set (.head (p' := .raw (seqObj "list" #[] c))) (Heap.SameBut.update ..) hg rfl s₂.toks
  generalize hs₃ : ({ s₂ with heap := s₂.heap.update D (Obj.mapSeq fun _ => (#[] : Array Value)) } : Shared) = s₃ at S₃ ⊢
  obtain ⟨o, hoD₃, e⟩ := S₃.get (.head _)
  have e : o = _ := e
  subst e
  refine wpAny_bind (seqEpoch_at hoD₃ rfl ?_)
  refine wpAny_bind (wpAny_newTuple ?_ (by show 1 ≤ _; rw [sizeLine_eq]; decide))
  have S₄ := S₃.push0 { cls := .type "tuple", data := .seq (#[Value.str x t] : Array Value).toList.toArray } s₃.toks
  refine wpAny_bind (wpAny_newList ?_ (by show 0 ≤ _; wtm_at "om"))
  have S₅ := S₄.push (p := .raw (seqObj "list" #[] 0)) (o := seqObj "list" #[] 0) rfl rfl s₃.toks
  generalize hk : (s₃.heap.push { cls := .type "tuple", data := .seq (#[Value.str x t] : Array Value).toList.toArray }).objs.size = kS at S₅ ⊢
  refine wpAny_holding ?_
  unfold ksk_rest
  refine wpAny_bind (wpAny_rule ?_)
  rw [← Array.forIn_toList]
  refine wpAny_bind ?_
  show wpAny _ _ (forIn [Value.str x t] _ _) _ _ _
  rw [List.forIn_cons]
  refine wpAny_bind ?_
  refine wpAny_bind (wpAny_attempt ((hkey [(kS, .raw (seqObj "list" #[] 0)), (D, .raw (seqObj "list" #[] c))] t).kN S₅ fun k σ₆ s₆ hsub S₆ => ?_))
  have S₇ := S₆.sub hsub
  obtain ⟨o, hoK, e⟩ := S₇.get (.head _)
  have e : o = _ := e
  subst e
  refine wpAny_bind (listUpdate_at hoK rfl ?_ (by show 0 ≤ _; wtm_at "om") (by show 1 ≤ _; rw [sizeLine_eq]; decide))
  have hgK := get?_update_seq hoK (·.push k)
  refine wpAny_pure ?_
  show wpAny _ _ (forIn ([] : List Value) PUnit.unit _) _ _ _
  rw [List.forIn_nil]
  refine wpAny_pure ?_
  refine wpAny_bind (listItems_at hgK rfl ?_)
  have S₈ := S₇.set (.head (p' := .raw (seqObj "list" ((#[] : Array Value).push k) (if (((#[] : Array Value).push k).size == (#[] : Array Value).size) = true then 0 else 0 + 1)))) (Heap.SameBut.update ..) hgK rfl s₆.toks
  generalize hs₈ : ({ heap := s₆.heap.update kS (Obj.mapSeq fun x => x.push k), gens := s₆.gens, drawn := s₆.drawn, toks := s₆.toks, os := s₆.os } : Shared) = s₈ at S₈ ⊢
  unfold ksk_end
  dsimp only
  rw [if_neg Bool.false_ne_true, if_pos (show (#[Value.str x t] : Array Value).size < 2 from Nat.lt_succ_self 1), if_pos (show (#[Value.str x t] : Array Value).size < 2 from Nat.lt_succ_self 1)]
  refine wpAny_bind (wpAny_pure ?_)
  rw [StateT.run_pure]
  refine wpAny_bind (wpAny_pure ?_)
  have hz : (((#[] : Array Value).push k).zip #[Value.str x t]) = #[(k, Value.str x t)] := by simp
  dsimp only
  rw [if_neg Bool.false_ne_true, hz]
  show wpAny _ _ (ksk_tail D false c (.ref kS) (SortSt.mk' general' #[(k, Value.str x t)] #[] 7 none)) _ _ _
  have hm : Array.map (fun x : Keyed => x.snd) (arrOf (SortSt.mk' general' #[(k, Value.str x t)] #[] 7 none)) = #[Value.str x t] := by
    show Array.map _ #[(k, Value.str x t)] = _
    simp
  unfold ksk_tail
  dsimp only
  rw [hm]
  obtain ⟨o, hoK₈, e⟩ := S₈.get (.head _)
  have e : o = _ := e
  subst e
  refine wpAny_bind (listUpdate_at hoK₈ rfl ?_ (by show 1 ≤ _; rw [sizeLine_eq]; decide) (by show 0 ≤ _; wtm_at "om"))
  have S₉ := (S₈.perm (List.Perm.swap _ _ _)).sub (σ' := [(D, .raw (seqObj "list" #[] c))] ++ σ) (by exact (List.sublist_cons_self _ _).cons_cons _)
  have S₉ := S₈.ext (h' := s₈.heap.update kS (Obj.mapSeq fun _ => (#[] : Array Value))) (Heap.SameBut.update s₈.heap kS (Obj.mapSeq fun _ => (#[] : Array Value))).extBut s₈.toks
  refine wpAny_bind (wpAny_letGo ?_)
  obtain ⟨o, hoD₉, e⟩ := S₉.get (.head _)
  have e : o = _ := e
  subst e
  refine wpAny_bind (seqEpoch_at hoD₉ rfl ?_)
  refine wpAny_bind (listUpdate_at hoD₉ rfl ?_ (by show 0 ≤ _; wtm_at "om") (by rw [if_neg Bool.false_ne_true]; show 1 ≤ _; rw [sizeLine_eq]; decide))
  rw [if_neg Bool.false_ne_true]
  have hgD := get?_update_seq hoD₉ fun _ => (#[Value.str x t] : Array Value)
  have S₁₀ := S₉.set (.head (p' := .lst [.str x 0])) (Heap.SameBut.update ..) hgD ⟨_, _, rfl, rfl⟩ s₈.toks
  simp only [bne_self_eq_false, Bool.false_eq_true, if_false]
  refine wpAny_pure ⟨_, rfl, wpAny_pure ⟨_, rfl, _, h D, ?_⟩⟩
  exact S₁₀
end
set_option maxHeartbeats 1000000
theorem TriplesOk.three {ps : List Value} {a b : Int} {c : Value} (h : TriplesOk ps) : TriplesOk (ps ++ [rawInt a, rawInt b, c]) := TriplesOk_snoc a b c ps h
noncomputable def Cx.withLam (C : Cx) (q : LamTab) (hq : q ∈ C.lams) (p : Addr × Obj) : Cx :=
  { C with
    lams := { q with own := some p } :: C.lams
    lamlow := fun r hr => by
      rcases List.mem_cons.mp hr with rfl | hr
      · exact C.lamlow q hq
      · exact C.lamlow r hr
    lamtab := fun r hr => by
      rcases List.mem_cons.mp hr with rfl | hr
      · exact C.lamtab q hq
      · exact C.lamtab r hr
    lamsame := fun r hr r' hr' e => by
      rcases List.mem_cons.mp hr with rfl | hr <;> rcases List.mem_cons.mp hr' with rfl | hr'
      · exact ⟨rfl, rfl⟩
      · exact C.lamsame q hq r' hr' e
      · exact C.lamsame r hr q hq e
      · exact C.lamsame r hr r' hr' e }
section
variable {prog : Program} {w : World} {A : Around} {E : Value → Shared → Prop} {C : Cx} {σ σ' σ'' τ : Led} {s : Shared} {a it D f : Addr} {q : LamTab} {p : Addr × Obj}
theorem Sat.lams (S : Sat C σ s) (hq : q ∈ C.lams) (h1 : p.1 ∉ σ.map (·.1)) (h2 : C.h₀.objs.size ≤ p.1) (h3 : s.heap.get? p.1 = some p.2) : Sat (C.withLam q hq p) σ s :=
  ⟨S.old, S.stat, S.led, S.low, S.nd, S.os, S.gens, S.gl, S.tk, fun r hr => by
    rcases List.mem_cons.mp hr with rfl | hr
    · exact ⟨(S.lam q hq).tab, fun p' hp' => by cases hp'; exact ⟨h1, h2, h3⟩⟩
    · exact S.lam r hr⟩
theorem Sat.noLam {hq : q ∈ C.lams} (S : Sat (C.withLam q hq p) σ s) : Sat C σ s :=
  ⟨S.old, S.stat, S.led, S.low, S.nd, S.os, S.gens, S.gl, S.tk, fun r hr => S.lam r (.tail _ hr)⟩
theorem Sat.table (S : Sat C σ s) (hq : q ∈ C.lams) {ps : Array Value} {h' : Heap} {c' : Addr} {tk : Nat} (hP : s.heap.get? q.P = some { cls := .none, data := .fields ps }) (ht : TriplesOk ps.toList) (hn : codeAmong q.pos ps.toList = none) (hx : Heap.ExtBut q.P s.heap h') (hge : s.heap.objs.size ≤ c')
    (hrec : h'.CodeRec (.ref c') q.qual) (hP' : h'.get? q.P = some (tabObj (ps ++ #[rawInt q.pos.line, rawInt q.pos.col, .ref c']))) (htk : 0 < tk) : Sat C σ { s with heap := h', toks := tk } := by
  obtain ⟨hPs, c, ps₀, hT⟩ := C.lamtab q hq
  have hlow := C.lamlow q hq
  have hne : ∀ b o, C.h₀.objs.size ≤ b → s.heap.get? b = some o → h'.get? b = some o := fun b o hb e => hx b o (fun e' => Nat.lt_irrefl _ (Nat.lt_of_lt_of_le hlow (e' ▸ hb))) e
  obtain ⟨⟨oc, vc, hoc, hcc, hdc, h11⟩, hP0⟩ := id hT
  have hcP : c ≠ q.P := fun e => by
    rw [e, hP0] at hoc; cases hoc; cases hcc
  have hc1 : s.heap.get? c = some oc := S.old.get_of_cls hoc (by rw [hcc]; nofun)
  have t1 : s.heap.TableAt c q.P ps := ⟨⟨oc, vc, hc1, hcc, hdc, h11⟩, hP⟩
  have t2 : h'.TableAt c q.P (ps ++ #[rawInt q.pos.line, rawInt q.pos.col, .ref c']) := ⟨⟨oc, vc, hx _ _ hcP hc1, hcc, hdc, h11⟩, hP'⟩
  refine ⟨S.old.step_table hT t1 t2 hx hPs, ?_, fun y hy => ?_, S.low, S.nd, S.os, S.gens, S.gl, htk, fun r hr => ?_⟩
  · obtain ⟨mc, ⟨oc, es, ep, hc, _⟩, _⟩ := C.lim
    exact (hx _ _ hPs.symm (S.stat.trans hc)).trans hc.symm
  · obtain ⟨o, ho, hp⟩ := S.led y hy
    exact ⟨o, hne _ _ (S.low y hy) ho, hp⟩
  · obtain ⟨⟨ps2, h1, h2, h3⟩, h4⟩ := S.lam r hr
    refine ⟨?_, fun p' hp' => ?_⟩
    · by_cases e : r.P = q.P
      · obtain ⟨e1, e2⟩ := C.lamsame q hq r hr e
        rw [e, hP] at h1
        cases h1
        refine ⟨_, by rw [e]; exact hP', ?_, fun cv hcv => ?_⟩
        · rw [Array.toList_append]; exact TriplesOk.three ht
        · rw [Array.toList_append, e1, codeAmong_snoc _ ht hn] at hcv
          cases hcv
          obtain ⟨c2, o2, vs, t, e3, hc2, hd2, hv2⟩ := hrec
          cases e3
          refine ⟨c', o2, vs, t, rfl, fun hm => ?_, Nat.le_trans S.size hge, hc2, hd2, by rw [e2]; exact hv2⟩
          obtain ⟨y, hy, e4⟩ := List.mem_map.mp hm
          have := S.lt (p := y.2) hy
          rw [e4] at this
          exact Nat.lt_irrefl _ (Nat.lt_of_lt_of_le this hge)
      · refine ⟨ps2, hx _ _ e h1, h2, fun cv hcv => ?_⟩
        obtain ⟨c2, o2, vs, t, e3, hk, hlo, hc2, r2⟩ := h3 cv hcv
        exact ⟨c2, o2, vs, t, e3, hk, hlo, hne _ _ hlo hc2, r2⟩
    · obtain ⟨k1, k2, k3⟩ := h4 p' hp'
      exact ⟨k1, k2, hne _ _ k2 k3⟩
noncomputable def LamO (qual : Str) (params : Arguments) (body : Expr) (scope : Scope) (clos : List (Str × Addr)) (c' : Addr) (o : Obj) : Prop := ∃ pm ctv, o = kla_obj "<lambda>" qual params body scope clos pm c' ctv
theorem lamMake {Q : Value → Shared → Prop} {params : Arguments} {body : Expr} {scope : Scope} {pos : Pos} {env : Env} {clos : List (Str × Addr)} {c : Addr} (S : Sat C σ s) (hq : q ∈ C.lams) (hdef : defaultsOf params env = ([], [])) (hcl : closureFor scope env = pure clos)
    (hge0 : env.globals = mainGlobals) (hcode : env.code = .ref c) (hpos : q.pos = pos) (hqual : q.qual = env.qual ++ "<lambda>") (hHd : CodeHd s.heap c q.P)
    (h : ∀ f c' o vs t s', o.data = .fields vs → vs[1]? = some (.str (env.qual ++ "<lambda>") t) → Sat (C.withLam q hq (c', o)) ((f, .prd (LamO (env.qual ++ "<lambda>") params body scope clos c')) :: σ) s' → Q (.ref f) s') :
    wpAny (model prog w) A (eval (.Lambda params body scope pos) env) Q E s := by
  obtain ⟨bm, ob, b1, b2, b3, b4, b5, b6⟩ := C.bmain
  obtain ⟨hPs, _, _, hTab⟩ := C.lamtab q hq
  have hlow := C.lamlow q hq
  have hbg : ∀ o, C.h₀.get? mainGlobals = some o → s.heap.get? mainGlobals = some o := fun o ho => by
    obtain ⟨o', es, ep, e, hd, _⟩ := C.gns
    rw [ho] at e; cases e
    rcases S.old.old _ _ ho with x | ⟨_, _, vs, more, hv, _⟩ | ⟨e, _⟩
    · exact x
    · rw [hv] at hd; cases hd
    · cases e
  have hg : s.heap.Ns mainGlobals C.mg := by
    obtain ⟨o, es, ep, e, r⟩ := C.gns
    exact ⟨o, es, ep, hbg _ e, r⟩
  have hgP : mainGlobals ≠ q.P := fun e => by
    obtain ⟨o, es, ep, e', hd, _⟩ := C.gns
    rw [e, hTab.2] at e'; cases e'; cases hd
  have hbP : bm ≠ q.P := fun e => by rw [e, hTab.2] at b3; cases b3; cases b4
  have hbG : bm ≠ mainGlobals := fun e => by
    obtain ⟨o, es, ep, e', hd, _⟩ := C.gns
    rw [e, e'] at b3; cases b3; rw [hd] at b6; cases b6
  have hbo : s.heap.get? bm = some ob := S.old.get_of_cls b3 (by rw [b4]; nofun)
  have hB : s.heap.BuiltinsAt C.mg q.P := ⟨bm, ob, b1, b2, hbG, hbP, hbo, b4, b5, b6⟩
  obtain ⟨⟨ps, hP, ht, hcv⟩, _⟩ := S.lam q hq
  subst hpos
  refine withTk (kla_eval hdef ?_) S.tk
  cases hca : codeAmong q.pos ps.toList with
  | some cv =>
    obtain ⟨c', o', vs, t, rfl, hn, hlo, hc', hd', hv'⟩ := hcv cv hca
    refine kla_makeFunctionHit (mg := C.mg) hcl hge0 hg hcode hHd hP ht hca hB fun ctv h' tk hk hsz htk => ?_
    have S₁ := S.lams hq (p := (c', o')) hn hlo hc'
    refine h h'.objs.size c' o' vs t _ hd' (by rw [← hqual]; exact hv') (S₁.grow (p := .prd (LamO (env.qual ++ "<lambda>") params body scope clos c')) (fun b o e => Heap.get?_push_of_some _ (hk b o e)) hsz (Heap.get?_push_size _ rfl) ⟨_, _, rfl⟩ tk htk)
  | none =>
    refine kla_makeFunction (mg := C.mg) hcl hge0 hg hcode hHd hP ht hca hgP hB fun c' ctv h' tk hx hge hlt hrec htb htk => ?_
    obtain ⟨c2, o2, vs, t, e3, hc2, hd2, hv2⟩ := id hrec
    cases e3
    have S₁ := S.table hq hP ht hca hx hge (by rw [hqual]; exact hrec) htb htk
    have hn : c' ∉ σ.map (·.1) := fun hm => by
      obtain ⟨y, hy, e4⟩ := List.mem_map.mp hm
      have := S.lt (p := y.2) hy
      rw [e4] at this
      exact Nat.lt_irrefl _ (Nat.lt_of_lt_of_le this hge)
    have S₂ := S₁.lams hq (p := (c', o2)) hn (Nat.le_trans S.size hge) hc2
    exact h h'.objs.size c' o2 vs t _ hd2 hv2 (S₂.push (p := .prd (LamO (env.qual ++ "<lambda>") params body scope clos c')) (o := kla_obj "<lambda>" (env.qual ++ "<lambda>") params body scope clos ((C.mg "__name__").getD .none) c' ctv) ⟨_, _, rfl⟩ rfl tk htk)
theorem lamCall {R : Result → Shared → Prop} {qual : Str} {params : Arguments} {body : Expr} {scope : Scope} {clos : List (Str × Addr)} {c' : Addr} {o' : Obj} {vs : Array Value} {t : Tok} {hq : q ∈ C.lams} {args : Args} {binds : List (Str × Value)}
    (S : Sat (C.withLam q hq (c', o')) σ s) (hf : (f, .prd (LamO qual params body scope clos c')) ∈ σ) (hd : o'.data = .fields vs) (hv : vs[1]? = some (.str qual t)) (hroom : A.depth < recursionLimit)
    (hbind : ∀ pm ctv, bindArgs (kla_fn "<lambda>" qual params body scope clos pm (.ref c') ctv) args = pure binds) (hloc : ∀ y ∈ binds, scope.names.lookup y.1 = some .local)
    (h : ∀ L s', Sat (C.withLam q hq (c', o')) ((L, .ns (binds.reverse.map fun y => (y.1, er y.2))) :: σ) s' →
      wpAny (model prog w) (A.deeper (envX qual scope L f (.ref c') clos)) (eval body (envX qual scope L f (.ref c') clos)) (fun v s'' => R (.ok (.ret v)) s'') (fun _ _ => False) s')
    (hco : scope.isCoroutine = false := by rfl) (hgen : scope.isGenerator = false := by rfl) (hk : scope.kind = .function := by rfl) (hcell : ∀ x ∈ scope.names, x.2 ≠ .cell := by decide) :
    codeAny (model prog w) A (.call (.ref f) args) R s := by
  obtain ⟨o, ho, pm, ctv, rfl⟩ := S.get hf
  obtain ⟨hn, hlo, hc⟩ := (S.lam _ (.head _)).fix (c', o') rfl
  refine kla_callFunE hroom ho rfl hco hgen rfl ⟨c', o', vs, t, rfl, hc, hd, hv⟩ ?_
  rw [hbind]
  refine wpAny_pure (wpAny_newFunctionEnv hcell hloc (fun h₁ hns hsb => ⟨S.lim.fresh _ hsb, ?_⟩) hk)
  show codeAny _ _ (.expr body (envX qual scope s.heap.objs.size f (.ref c') clos)) _ _
  have hk₁ : ∀ b o, s.heap.get? b = some o → h₁.get? b = some o := fun b o e => hsb.extBut b o (Nat.ne_of_lt (Heap.lt_size e)) (Heap.get?_push_of_some _ e)
  obtain ⟨o', ho', hp'⟩ := PO.of_ns (m := binds.reverse.map fun y => (y.1, er y.2)) hns (fun x => by
      induction binds.reverse with
      | nil => rfl
      | cons y r ih =>
        rw [List.lookup_cons, List.map_cons, List.lookup_cons]
        cases (x == y.1) <;> simp_all)
  have S₁ := S.grow hk₁ (Nat.le_refl _) ho' hp' (s.toks + binds.length)
  exact kla_codeExpr (wpAny_mono (h _ _ S₁) (fun v s' hl => hl) fun _ _ y => y.elim)
end
set_option maxHeartbeats 1000000
noncomputable def er2 (p : Str × Value) : Str × Value := (p.1, er p.2)
noncomputable def dco (prog : Program) (w : World) (kvs : List (Str × Value)) (o : Obj) : Prop :=
  o.ExactDict ∧ ∃ es ep kv', o.data = .dict es ep ∧ KeysOf (PySem.strKind prog w) es ∧ Pairs (PySem.strKind prog w) es.toList kv' ∧ (kv'.map (·.1)).Nodup ∧ kv'.map er2 = kvs
noncomputable def dcp (prog : Program) (w : World) (kvs : List (Str × Value)) : PO := .prd (dco prog w kvs)
theorem stored_er (kv : List (Str × Value)) (k : Str) (v : Value) : (stored kv k v).map er2 = stored (kv.map er2) k (er v) := by
  unfold stored
  have e : ((kv.map er2).any fun p => decide (p.1 = k)) = kv.any fun p => decide (p.1 = k) := by rw [List.any_map]; rfl
  rw [e]
  split
  · rw [List.map_map, List.map_map]
    refine List.map_congr_left fun p _ => ?_
    show er2 (if p.1 = k then (p.1, v) else p) = (if p.1 = k then (p.1, er v) else er2 p)
    split <;> rfl
  · rw [List.map_append]; rfl
theorem valueAt_er (kv : List (Str × Value)) (k : Str) : (valueAt kv k).map er = valueAt (kv.map er2) k := by
  unfold valueAt
  rw [List.find?_map]
  have e : ((fun p : Str × Value => decide (p.1 = k)) ∘ er2) = fun p => decide (p.1 = k) := rfl
  rw [e]
  cases kv.find? fun p => decide (p.1 = k) <;> rfl
section
variable {prog : Program} {w : World} {C : Cx} {A : Around} {σ σ' τ : Led} {α β : Type} {E : Value → Led → Prop} {env : Env} {s : Shared} {d a q : Addr} {kvs : List (Str × Value)} {k : Str} {t : Tok}
theorem dco_empty : dco prog w [] emptyDict := ⟨⟨rfl, rfl, rfl⟩, #[], 0, [], rfl, fun e he => by simp at he, .nil, .nil, rfl⟩
theorem Sat.dict (S : Sat C σ s) (hd : (d, dcp prog w kvs) ∈ σ) : ∃ kv', s.heap.DictOf (PySem.strKind prog w) d kv' ∧ kv'.map er2 = kvs ∧ (d == sysModules) = false := by
  obtain ⟨o, ho, hex, es, ep, kv', h1, h2, h3, h4, h5⟩ := S.get hd
  refine ⟨kv', ⟨o, es, ep, ho, hex, h1, h2, h3, h4⟩, h5, ?_⟩
  have := S.low _ hd
  have h6 := C.low
  refine beq_eq_false_iff_ne.mpr fun e => ?_
  have e1 : sysModules < cStatics := by decide
  have e2 : d < cStatics := e ▸ e1
  have e3 : C.h₀.objs.size ≤ d := this
  exact Nat.lt_asymm (Nat.lt_of_lt_of_le h6 e3) e2
theorem dco_of {h : Heap} {kv' : List (Str × Value)} (x : h.DictOf (PySem.strKind prog w) d kv') : ∃ o, h.get? d = some o ∧ dco prog w (kv'.map er2) o := by
  obtain ⟨o, es, ep, ho, hex, h1, h2, h3, h4⟩ := x
  exact ⟨o, ho, hex, es, ep, kv', h1, h2, h3, h4, rfl⟩
theorem T_dict0 {pos : Pos} {Q : Value → Led → Prop} (h : ∀ D, Q (.ref D) ((D, dcp prog w []) :: σ)) : T prog w C A σ (eval (.Dict [] [] pos) env) Q E := fun _ S =>
  evD0 S fun D _ S' => ⟨_, h D, S'.weak (q := dcp prog w []) fun o ho => by rw [show o = emptyDict from ho]; exact dco_empty⟩
theorem dictSetP {Q : Unit → Shared → Prop} {E : Value → Shared → Prop} {v : Value} (S : Sat C σ s) (U : Upd d (dcp prog w kvs) (dcp prog w (stored kvs k (er v))) σ σ') (hz : kvs.length ≤ 1000000) (h : ∀ s', Sat C σ' s' → Q () s') : wpAny (model prog w) A (dictSet d (.str k t) v) Q E s := by
  obtain ⟨kv', hD, e, _⟩ := S.dict U.mem
  have hl : kv'.length = kvs.length := by rw [← e, List.length_map]
  refine wpAny_dictSet_pairs (knd := PySem.strKind prog w) (k := k) (strKind_is ..) hD (fun h' hD' hs => ?_) (by rw [sizeLine_eq]; wtm_at "om")
  obtain ⟨o, ho, hp⟩ := dco_of hD'
  rw [stored_er, e] at hp
  exact h _ (S.set U hs ho hp _)
theorem T_trD {Q : Bool → Led → Prop} (hd : (d, dcp prog w kvs) ∈ σ) (hz : kvs.length ≤ 1000000) (h : Q (!kvs.isEmpty) σ) : T prog w C A σ (truthy (.ref d)) Q E := fun _ S => by
  obtain ⟨kv', hD, e, hs⟩ := S.dict hd
  have hl : kv'.length = kvs.length := by rw [← e, List.length_map]
  refine wpAny_truthy_dict hs hD (by wtm_at "om") ?_
  have : (!kv'.isEmpty) = !kvs.isEmpty := by rw [← e]; cases kv' <;> rfl
  rw [this]
  exact ⟨_, h, S.tok _⟩
theorem T_gmGet {pl : Sem Bool} {Q : Value × List Value → Led → Prop} (hd : (d, dcp prog w kvs) ∈ σ) (h : Q (.builtin "dict.get", [.ref d]) σ) : T prog w C A σ (getMethod (.ref d) (Str.ofString "get") pl) Q E := fun _ S => by
  obtain ⟨kv', hD, e, hs⟩ := S.dict hd
  exact getMethod_builtin hD.typeIs PySem.F.plainAttrs_dict PySem.F.slot_dict_get PySem.F.type_dict_get hD.mapOf.noDict ⟨_, h, S⟩
theorem T_getNone {Q : Value → Led → Prop} (hd : (d, dcp prog w kvs) ∈ σ) (hv : valueAt kvs k = none) (h : Q .none σ) : T prog w C A σ (call (.builtin "dict.get") [.ref d, .str k t]) Q E := fun _ S => by
  obtain ⟨kv', hD, e, hs⟩ := S.dict hd
  have hf : valueAt kv' k = none := by
    have := valueAt_er kv' k
    rw [e, hv] at this
    exact Option.map_eq_none_iff.mp this
  refine call_meetsIn PySem.F.slot_dict_get hD.typeIs PySem.F.entry_dict_get (PySem.F.args_dict_get_2 _ _) (meets_dict_get (PySem.strKind prog w) (k := k) d (strKind_is ..) hs) ⟨_, hD.mapOf, ?_⟩
  rw [hf]
  exact ⟨_, h, S.tok _⟩
theorem T_itemD {value slice : Expr} {Q : Value → Led → Prop} {pv : Value} (hd : (d, dcp prog w kvs) ∈ σ) (hv : valueAt kvs k = some pv) (h : Vs pv fun v => Q v σ)
    (hs : subscripted slice false (.ref d) (.str k t) = operate [.ref d, .str k t] (getItem (.ref d) (.str k t)) := by with_unfolding_all rfl) : T prog w C A σ (subscriptTail value slice (.ref d) (.str k t)) Q E := fun _ S => by
  obtain ⟨kv', hD, e, hsm⟩ := S.dict hd
  have := valueAt_er kv' k
  rw [e, hv] at this
  obtain ⟨v, hf, he⟩ := Option.map_eq_some_iff.mp this
  exact tail_any hD.typeIs slot_dict_getitem.lookup (wpAny_getItem_of (knd := PySem.strKind prog w) (k := k) (strKind_is ..) hD.mapOf hf ((h.led (S.tok _)).get he)) hs
theorem T_itemLneg {value slice : Expr} {l : Addr} {xs : List Value} {i : Int} {u : Tok} {pv : Value} {Q : Value → Led → Prop} (hl : (l, .lst xs) ∈ σ) (h0 : i < 0) (h1 : -(xs.length : Int) ≤ i) (hf : -(2 ^ 63) ≤ i) (hx : xs[(i + xs.length).toNat]? = some pv) (h : Vs pv (fun v => Q v σ))
    (hs : subscripted slice false (.ref l) (.int i u) = operate [.ref l, .int i u] (getItem (.ref l) (.int i u)) := by with_unfolding_all rfl) : T prog w C A σ (subscriptTail value slice (.ref l) (.int i u)) Q E := fun s S => by
  obtain ⟨its, hL, he⟩ := S.isList hl
  have hn := lst_len he
  rw [← he, List.getElem?_map] at hx
  obtain ⟨v, hv, e⟩ := Option.map_eq_some_iff.mp hx
  refine tail_any hL.typeIs slot_list_getitem.lookup (wpAny_getItem_list_neg (x := v) hL h0 (by rw [hn]; exact h1) hf ?_ ((h.led S).get e)) hs
  rw [hn]
  rw [List.length_map, Array.length_toList] at hv
  rw [← hn]
  simpa using hv
theorem T_itemT {value slice : Expr} {l : Addr} {xs : List Value} {i : Int} {u : Tok} {pv : Value} {Q : Value → Led → Prop} (hl : (l, .tup xs) ∈ σ) (h0 : 0 ≤ i) (hf : i < 2 ^ 63) (hx : xs[i.toNat]? = some pv) (h : Vs pv (fun v => Q v σ))
    (hs : subscripted slice false (.ref l) (.int i u) = operate [.ref l, .int i u] (getItem (.ref l) (.int i u)) := by with_unfolding_all rfl) : T prog w C A σ (subscriptTail value slice (.ref l) (.int i u)) Q E := fun s S => by
  obtain ⟨o, ho, its, n, rfl, he⟩ := S.get hl
  have hn : its.size = xs.length := by rw [← he, List.length_map, Array.length_toList]
  rw [← he, List.getElem?_map] at hx
  obtain ⟨v, hv, e⟩ := Option.map_eq_some_iff.mp hx
  have hlt : i.toNat < its.size := by
    have := (List.getElem?_eq_some_iff.mp hv).1
    simpa using this
  refine item_tupleT (l := its.toList) ⟨_, ho, rfl, n, by simp⟩ (by wtm_at "om") hf (j := i.toNat) ?_ hv ((h.led S).get e) hs
  unfold seqIndex?
  simp
  wtm_at "om"
theorem T_neg {x : Expr} {pos : Pos} {Q : Value → Led → Prop} (h : T prog w C A σ (eval x env) (fun v σ₁ => T prog w C A σ₁ (unaryOp .USub v) Q E) E) : T prog w C A σ (eval (.UnaryOp .USub x pos) env) Q E := fun _ S => wpAny_UnaryOp (h.k S fun _ _ _ h S => h _ S)
theorem T_negI {i : Int} {u : Tok} {Q : Value → Led → Prop} (h : ∀ t, Q (.int (-i) t) σ) : T prog w C A σ (unaryOp .USub (.int i u)) Q E := fun _ S => PyProof.Rows.neg_int ⟨_, h _, S.tok _⟩
noncomputable def bndM (f x : Addr) : PO := .raw (methodObj (.ref f) (.ref x))
structure MB (K : Frag) (c : Addr) (n : Str) (f : Addr) : Prop where
  g : plainGet K c n = true
  h : hasDictIn K c = true
  a : findIn K (.ref c) n = some (some (.ref f))
  ty : typeIn K (.ref f) = some (.type "function")
  sp : specialIn K (.ref f) "__get__" = some (some (.builtin "function.__get__"))
  tk : takesIn K (.ref f) = some false
  cp : copiedNames.contains n = false
theorem T_getBnd {x Cc f : Addr} {name : Str} {m : List (Str × Value)} {Q : Value → Led → Prop} {expr : Bool} (hm : (x, .ins Cc d) ∈ σ) (hd : (d, .idc m) ∈ σ) (hc : MB C.K Cc name f) (hx : m.lookup name = none) (h : ∀ q, Q (.ref q) ((q, bndM f x) :: σ)) : T prog w C A σ (getAttr (.ref x) name expr) Q E := fun s S => by
  obtain ⟨od, es, ep, I, ho, e, k, ff, z⟩ := S.inst hm hd
  have q := ff name
  rw [hx, Option.map_eq_none_iff] at q
  refine get_bind S.kin I (plainGet_of hc.g).1 (findObj_fn hc.h hc.a hc.sp hc.tk hc.cp (by rw [look_of e k, q])) (plainGet_of hc.g).2 (wpAny_call (fn_get (s := { s with toks := s.toks + 1 }) S.kin hc.ty (handed_on rfl ?_)))
  exact ⟨_, h _, S.push (p := bndM f x) rfl rfl (s.toks + 1)⟩
theorem T_callBM {x f : Addr} {of : Obj} {fd : FuncData} {pos : Pos} {first : List Value} {e : Expr} {rest : List Expr} {Q : Value → Led → Prop} (hq : (q, bndM f x) ∈ σ) (hf : C.K.lookup f = some of) (hfd : of.data = .func fd)
    (h : T prog w C A σ (spliced (backTo pos (starEach (e :: rest) env))) (fun vs σ₁ => (q, bndM f x) ∈ σ₁ ∧ T prog w C A σ₁ (call (.ref q) (first ++ vs)) Q E) E)
    (he : starEach (e :: rest) env = (false, eval e env) :: starEach rest env := by rfl) (hp : (backTo pos (starEach rest env)).any (·.1) = false := by rfl) : T prog w C A σ (callWith pos (.ref q) first (backTo pos (starEach (e :: rest) env)) []) Q E := fun s S => by
  have h' := h s S
  rw [he] at h' ⊢
  refine callWith_of (P := fun h => h.get? q = some (methodObj (.ref f) (.ref x)) ∧ h.get? f = some of) (by show ((false || (backTo pos (starEach rest env)).any (·.1)) || false) = false; rw [hp]; rfl) (fun h hp => ⟨.boundFrame, .inr (.inr rfl), ?_⟩)
    (evalArgs_plain (wpAny_mono h' (fun vs s₁ ⟨σ', ⟨hq', h1⟩, S'⟩ => ?_) fun _ _ e => e))
  · unfold keeperOf
    refine (Looks.ld (part := none) hp.1).andThen ?_
    refine (Looks.ld (part := none) hp.2).andThen ?_
    rw [hfd]
    exact .now
  · obtain ⟨o, ho, e⟩ := S'.get hq'
    have e : o = _ := e
    subst e
    exact ⟨⟨ho, S'.kin _ _ hf⟩, h1 _ S'⟩
theorem T_bm {x f : Addr} {args : List Value} {Q : Value → Led → Prop} (hq : (q, bndM f x) ∈ σ) (h : TC prog w C A σ (.call (.ref f) ⟨.ref x :: args, []⟩) (fun r σ' => match r with | .ok (.ret v) => Q v σ' | _ => False)) : T prog w C A σ (call (.ref q) args) Q E := fun s S => by
  obtain ⟨o, ho, e⟩ := S.get hq
  have e : o = _ := e
  subst e
  refine wpAny_call (ks_codeAny_call_bound ho (codeAny_mono (h s S) fun r s' ⟨σ', hr, S'⟩ => ?_))
  cases r with
  | error e => exact hr.elim
  | ok fl => cases fl with
    | ret v => exact ⟨σ', hr, S'⟩
    | _ => exact hr.elim
end
set_option maxHeartbeats 1000000
section
variable {prog : Program} {w : World} {C : Cx} {A : Around} {σ σ' τ : Led} {α β : Type} {E : Value → Led → Prop} {env : Env} {s : Shared} {d a q it : Addr} {kvs : List (Str × Value)} {k : Str} {t : Tok}
theorem Sat.dictAt (S : Sat C σ s) (hd : (d, dcp prog w kvs) ∈ σ) : ∃ kv' ep, s.heap.DictAt (PySem.strKind prog w) d kv' ep ∧ kv'.map er2 = kvs ∧ (d == sysModules) = false := by
  obtain ⟨kv', h1, h2, h3⟩ := S.dict hd
  obtain ⟨ep, h4⟩ := h1.dictAt
  exact ⟨kv', ep, h4, h2, h3⟩
theorem star0 {Q : Unit → Shared → Prop} {E : Value → Shared → Prop} {D : Addr} {ys : List Str} (S : Sat C σ s) (hd : (d, dcp prog w []) ∈ σ) (hD : (D, sps prog w ys) ∈ σ) (hh : A.handled = none) (h : ∀ s', Sat C σ s' → Q () s') : wpAny (model prog w) A (setDisplayStar D (.ref d)) Q E s := by
  obtain ⟨kv', ep, hA, hkv, hsm⟩ := S.dictAt hd
  have hkv : kv' = [] := List.map_eq_nil_iff.mp hkv
  subst hkv
  have hT : s.TypeIs (.ref d) "dict" := hA.dictOf.typeIs
  have fin : wpAny (model prog w) A (runValue (.builtin "set.update.loop" ⟨[.ref D, .ref s.heap.objs.size], []⟩) >>= fun _ => pure ()) Q E
      { s with heap := s.heap.push { cls := .type "dict_keyiterator", data := .fields #[.ref d, .int 0 0, .int (([] : List (Str × Value)).length) 0, .int ep 0] } } := by
    have hIt : (s.heap.push { cls := .type "dict_keyiterator", data := .fields #[.ref d, .int 0 0, .int (([] : List (Str × Value)).length) 0, .int ep 0] }).IsKeyIter s.heap.objs.size d 0 0 ep := ⟨_, Heap.get?_push_size _ rfl, rfl, rfl⟩
    have S₁ := S.push (p := .prd fun _ => True) (o := { cls := .type "dict_keyiterator", data := .fields #[.ref d, .int 0 0, .int (([] : List (Str × Value)).length) 0, .int ep 0] }) trivial rfl s.toks
    refine wpAny_bind (wpAny_runValue (codeAny_builtin F.entry_set_update_loop ?_))
    rw [Around.under_plainId F.plain_set_update_loop _]
    show wpAny _ A.in1 (pyNext (.ref s.heap.objs.size) >>= _) _ _ _
    refine wpAny_bind (wpAny_pyNext_dict_end (knd := PySem.strKind prog w) (kvs := []) hh hIt (hA.push _) rfl fun h' hx => ?_)
    refine wpAny_pure (wpAny_pure (h _ ?_))
    exact S₁.ext hx s.toks
  unfold setDisplayStar
  refine wpAny_bind (wpAny_isInstance (T := "dict") (b := false) hT (by rw [isSubtype_type]; kernel_rfl) ?_)
  rw [if_neg Bool.false_ne_true]
  refine wpAny_bind (wpAny_isInstance (T := "dict") (b := false) hT (by rw [isSubtype_type]; kernel_rfl) ?_)
  refine wpAny_bind (wpAny_askSetting ?_)
  dsimp only
  cases hbt : (model prog w).w.params.followText "set-display-star-reads-storage" with
  | true =>
    rw [if_pos rfl]
    dsimp only
    refine wpAny_bind (wpAny_pyIter_dict hsm hA ?_)
    exact fin
  | false =>
    rw [if_neg Bool.false_ne_true]
    dsimp only
    rw [if_neg Bool.false_ne_true]
    refine wpAny_bind (wpAny_typeOf hT ?_)
    rw [if_pos (by rfl)]
    obtain ⟨od, es, hod, hex, hdat, hk, hp, hn⟩ := id hA
    have hes : es.size = 0 := by have := hp.length; rw [Array.length_toList] at this; exact this
    refine wpAny_bind (wpAny_rule ?_)
    rw [if_neg (by rw [hsm]; exact Bool.false_ne_true)]
    refine wpAny_bind (wpAny_dictEpoch hod hdat ?_)
    refine wpAny_bind (wpAny_dictEntries hod hdat ?_)
    obtain ⟨oS, hoS, hexS, es2, ep2, tb, hdS, _, _, _, hfS, _, _, _, hful⟩ := S.get hD
    refine wpAny_bind ?_
    unfold setRoomFor
    refine wpAny_bind (wpAny_setState_of hoS hdS hfS ?_)
    have hrm : tb.roomFor es.size = none := by
      unfold SetTable.roomFor
      rw [hes, Nat.add_zero]
      refine if_neg fun hc => ?_
      unfold SetTable.tooFull at hful
      rw [decide_eq_false_iff_not] at hful
      exact hful hc
    dsimp only
    rw [hrm]
    refine wpAny_pure ?_
    rw [Std.Legacy.Range.forIn_eq_forIn_range']
    have hsz : ([:es.size] : Std.Legacy.Range).size = 0 := by simp [Std.Legacy.Range.size, hes]
    show wpAny _ _ (forIn (List.range' 0 ([:es.size] : Std.Legacy.Range).size 1) PUnit.unit _ >>= _) _ _ s
    rw [hsz]
    exact wpAny_bind (wpAny_pure (wpAny_pure (h _ S)))
theorem T_SetStar0 {e x : Expr} {k : Nat} {p pos : Pos} {Q : Value → Led → Prop} (hc : kdsCode C.K env.code = true) (hk : k = 0)
    (h : ∀ D, T prog w C A ((D, sps prog w []) :: σ) (eval e env) (fun v σ₁ => ∃ y t σ₂, v = .str y t ∧ Upd D (sps prog w []) (sps prog w [y]) σ₁ σ₂ ∧
      T prog w C A σ₂ (eval x env) (fun v σ₃ => ∃ d, v = .ref d ∧ (d, dcp prog w []) ∈ σ₃ ∧ (D, sps prog w [y]) ∈ σ₃ ∧ Q (.ref D) σ₃) E) E)
    (hh : A.handled = none) (he : starEach [e, .Starred x p] env = [(false, eval e env), (true, eval x env)] := by rfl) : T prog w C A σ (eval (.Set [e, .Starred x p] k pos) env) Q E := fun s S => by
  subst hk
  rw [arm_eval_Set, he]
  refine wpAny_bind (wpAny_standAt (wpAny_bind (kds_main S.kin hc fun b => ?_)))
  show wpAny _ _ (setDisplay .oneByOne b [(false, do let v ← eval e env; standAt pos; pure v), (true, do let v ← eval x env; standAt pos; pure v)]) _ _ s
  unfold setDisplay
  rw [if_neg (by decide)]
  refine wpAny_bind (newSetP S fun D s₁ S₁ => ?_)
  dsimp only
  refine wpAny_bind (wpAny_holding ?_)
  show wpAny _ _ (evalAll [do let v ← eval e env; standAt pos; pure v] >>= _) _ _ s₁
  refine wpAny_bind ?_
  unfold evalAll
  refine wpAny_bind (wpAny_bind ((h D).k S₁ fun v σ₁ s₂ hv S₂ => ?_))
  obtain ⟨y, t, σ₂, rfl, U, h₂⟩ := hv
  refine wpAny_bind (wpAny_standAt (wpAny_pure (wpAny_bind (wpAny_holding ?_))))
  unfold evalAll
  refine wpAny_pure (wpAny_pure ?_)
  refine wpAny_bind (wpAny_holding ?_)
  refine wpAny_bind ?_
  rw [List.forIn_cons]
  refine wpAny_bind ?_
  unfold setAdd
  refine wpAny_bind (wpAny_holding (wpAny_bind ((PySem.strKind prog w).pyHash (k := y) (strKind_is ..) ?_)))
  refine setAddP (xs := []) (x := y) (S₂.tok (s₂.toks + 1)) (by rw [if_neg (by simp)]; exact U) (by decide) fun b s₃ S₃ => ?_
  refine wpAny_pure ?_
  show wpAny _ _ (forIn ([] : List Value) PUnit.unit _) _ _ _
  rw [List.forIn_nil]
  refine wpAny_pure ?_
  rw [if_neg (by decide)]
  refine wpAny_pure ?_
  refine wpAny_bind ?_
  show wpAny _ _ (forIn [(true, do let v ← eval x env; standAt pos; pure v)] PUnit.unit _) _ _ s₃
  rw [List.forIn_cons]
  refine wpAny_bind ?_
  refine wpAny_bind (wpAny_bind (h₂.k S₃ fun v σ₃ s₄ hv S₄ => ?_))
  obtain ⟨d, rfl, hd, hD, hq⟩ := hv
  refine wpAny_bind (wpAny_standAt (wpAny_pure ?_))
  rw [if_pos rfl]
  refine wpAny_bind (wpAny_holding ?_)
  refine star0 S₄ hd hD hh fun s₅ S₅ => ?_
  refine wpAny_pure ?_
  show wpAny _ _ (forIn ([] : List (Bool × Sem Value)) PUnit.unit _) _ _ _
  rw [List.forIn_nil]
  exact wpAny_pure (wpAny_pure (wpAny_pure ⟨_, hq, S₅⟩))
end
set_option maxHeartbeats 1000000
section
variable {prog : Program} {w : World} {C : Cx} {A : Around} {σ σ' τ : Led} {α β : Type} {E : Value → Led → Prop} {env : Env} {s : Shared} {d a q it D : Addr} {kvs : List (Str × Value)} {k : Str} {t : Tok}
theorem T_DCu {kx vx iter : Expr} {x y : Str} {px py : Pos} {scope : Scope} {pos spos : Pos} (cl : List (Str × Addr)) {Q : Flow → Led → Prop}
    (hsw : swapsWith (.DictComp kx vx [⟨.Name x px, iter, [], 0⟩] scope pos) (some (.Name y py)) spos.line env = Pure.pure true) (hclos : closureFor scope env = Pure.pure cl) (hkind : scope.kind = .function) (hnames : ∀ x ∈ scope.names, x.2 = .local → scope.names.lookup x.1 = some .local)
    (h : T prog w C A σ (eval iter env) (fun xv σ₁ => T prog w C A σ₁ (pyIter xv) (fun it σ₂ => CompT prog w C A σ₂ env (.DictComp kx vx [⟨.Name x px, iter, [], 0⟩] scope pos) scope cl newDict (some (assign (.Name y py) env)) (fun _ => Q .next) E it) E) E)
    (hs : ∀ x, foldedSetIterable iter env x = Pure.pure x := by intro _; rfl) : T prog w C A σ (exec (.Assign [.Name y py] (.DictComp kx vx [⟨.Name x px, iter, [], 0⟩] scope pos) spos) env) Q E := by
  rw [exec_Assign_Name_used _ _ _ _ hsw]
  refine T.bind (T.standAt (T.bind ?_))
  unfold evalThenUse
  refine T.bind (wpAny_comp_free (Q := fun _ σ' => T prog w C A σ' (Pure.pure ()) (fun _ σ' => T prog w C A σ' (Pure.pure Flow.next) Q E) E) rfl hs hclos hkind hnames (h.mono (fun xv σ₁ h => h.mono (fun it σ₂ h => ?_) fun _ _ e => e) fun _ _ e => e))
  intro s S
  refine wpAny_mono (h s S) (fun acc s₃ h => wpAny_mono h (fun cenv s₄ h => codeAny_mono h fun r s' h => ?_) fun _ _ e => e) fun _ _ e => e
  cases r with
  | error e => exact h
  | ok f =>
    refine wpAny_mono h (fun _ s'' ⟨m, hn, hq⟩ => ⟨m, hn, fun h' hs' => ?_⟩) fun _ _ e => e
    obtain ⟨σ', hq, S'⟩ := hq h' hs'
    exact ⟨σ', T.pure (T.pure hq), S'⟩
theorem T_DCB {kx vx iter : Expr} {x : Str} {px : Pos} {scope : Scope} {pos : Pos} {cl : List (Str × Addr)} {Q : Value → Led → Prop} {use : Option (Value → Sem Unit)} {po : Nat → PO} {xs : List Value} {need : Led → Prop}
    (I : Its C prog w A it po xs need) (J : List Value → List (Str × Value) → Led → Prop) (h0 : J xs [] τ)
    (hn : ∀ r ac τ, J r ac τ → need τ) (hsz : ∀ r ac τ, J r ac τ → ac.length ≤ 1000000) (hk : scope.kind = .function) (hx : scope.names.lookup x = some .local) (hcell : ∀ y ∈ scope.names, y.2 ≠ .cell)
    (turn : ∀ D L pv r ac τ i m, J (pv :: r) ac τ → T prog w C A ((it, po i) :: (L, .ns ((x, pv) :: m)) :: (D, dcp prog w ac) :: τ) (eval kx (compEnvC scope cl L env)) (fun kv σ₁ => T prog w C A σ₁ (eval vx (compEnvC scope cl L env)) (fun vv σ₂ =>
      ∃ k t τ', kv = .str k t ∧ J r (stored ac k (er vv)) τ' ∧ ((it, po i) :: (L, .ns ((x, pv) :: m)) :: (D, dcp prog w ac) :: τ').Sublist σ₂) NoE) NoE)
    (fin : ∀ ac τ, J [] ac τ → FinC prog w C A τ (dcp prog w ac) Q E use) (hneed : ∀ q τ, need τ → need (q :: τ) := by intro _ _ h; first | exact .tail _ h | exact h) :
    CompT prog w C A ((it, po 0) :: τ) env (.DictComp kx vx [⟨.Name x px, iter, [], 0⟩] scope pos) scope cl newDict use Q E (.ref it) := by
  intro s S
  unfold CompRestU
  refine wpAny_newObj_type ?_
  have S₁ := S.push (p := dcp prog w []) (o := emptyDict) dco_empty rfl s.toks
  generalize hD : s.heap.objs.size = D at S₁
  generalize hs₁ : ({ s with heap := s.heap.push emptyDict, toks := s.toks } : Shared) = s₁ at S₁
  refine wpAny_newFunctionEnv hcell (by intro y hy; simp at hy) (fun h₁ hns hsb => ?_) hk
  obtain ⟨oL, hoL, hpL⟩ := PO.of_ns (m := []) hns (fun x => rfl)
  have kk : ∀ b o, s₁.heap.get? b = some o → h₁.get? b = some o := fun b o e => hsb.extBut b o (Nat.ne_of_lt (Heap.lt_size e)) (Heap.get?_push_of_some _ e)
  have S₂ := S₁.grow kk (Nat.le_refl _) hoL hpL (s₁.toks + ([] : List (Str × Value)).length)
  generalize hL : s₁.heap.objs.size = L at *
  have S₃ := S₂.perm (σ' := (it, po 0) :: (L, .ns []) :: (D, dcp prog w []) :: τ) ((List.Perm.cons _ (List.Perm.swap _ _ _)).trans (List.Perm.swap _ _ _))
  have hxl : (compEnvC scope cl L env).kindOf x = some .local := lookup_relabel_local hx
  have hkf : (compEnvC scope cl L env).scope.kind = .function := by simp [compEnvC, relabel, hk]
  have loop : codeAny (model prog w) A (.compLoop (.DictComp kx vx [⟨.Name x px, iter, [], 0⟩] scope pos) 0 (.ref it) (.ref D) (compEnvC scope cl L env)) (compPost (model prog w) A (fun e s' => ∃ σ', E e σ' ∧ Sat C σ' s') use (fun v s' => ∃ σ', Q v σ' ∧ Sat C σ' s') (.ref D) L)
      { s₁ with heap := h₁, toks := s₁.toks + ([] : List (Str × Value)).length } := by
    refine codeAny_compLoop_testsD (fun k s' => ∃ i r ac τ m, k + i = xs.length ∧ r = xs.drop i ∧ J r ac τ ∧ Sat C ((it, po i) :: (L, .ns m) :: (D, dcp prog w ac) :: τ) s') ?_ xs.length ⟨0, xs, [], τ, [], rfl, rfl, h0, S₃⟩
    rintro k s' ⟨i, r, ac, τ, m, hk', rfl, hJ, S'⟩
    refine I.next (hneed _ _ (hneed _ _ (hn _ _ _ hJ))) S' (fun hx' s₁ S₁ => ?_) fun pv v hpv hv s₁ S₁ => ?_
    · rw [List.drop_eq_nil_iff.mpr (List.getElem?_eq_none_iff.mp hx')] at hJ
      exact (fin ac τ hJ).post S₁
    · have hlt : i < xs.length := (List.getElem?_eq_some_iff.mp hpv).1
      have hd : xs.drop i = pv :: xs.drop (i + 1) := by
        rw [List.drop_eq_getElem_cons hlt, (List.getElem?_eq_some_iff.mp hpv).2]
      rw [hd] at hJ
      refine wpAny_assign_Name (stL (env := compEnvC scope cl L env) S₁ (.tail .head) hxl hkf fun s₂ S₂ => ?_)
      rw [hv] at S₂
      rw [List.forIn_nil]
      refine wpAny_pure ?_
      rw [if_pos rfl]
      refine (turn D L pv _ ac τ (i + 1) m hJ).kN S₂ fun kv σ₁ s₃ h₁ S₃ => T.kN (E' := _) h₁ S₃ fun vv σ₂ s₄ h₂ S₄ => ?_
      obtain ⟨kk, t, τ', rfl, hJ', hsub⟩ := h₂
      have S₅ := S₄.sub hsub
      refine dictSetP S₅ (.tail (.tail .head)) (hsz _ _ _ hJ) fun s₅ S₆ => ?_
      exact ⟨k - 1, by wtm_at "om", i + 1, _, _, τ', _, by wtm_at "om", rfl, hJ', S₆⟩
  exact codeAny_compStart_dict loop (I.self S₃ loop)
theorem T_FStr {v₁ v₂ : Expr} {rest : List Expr} {pos : Pos} {Q : Value → Led → Prop} (h : T prog w C A σ (joinParts Str.empty (eval v₁ env :: eval v₂ env :: evalEach rest env)) Q E) : T prog w C A σ (eval (.JoinedStr (v₁ :: v₂ :: rest) pos) env) Q E := fun _ S => JoinedStr_many (h _ S)
theorem T_jp0 {out : Str} {Q : Value → Led → Prop} (hz : out.length ≤ 1000000) (h : ∀ t, Q (.str out t) σ) : T prog w C A σ (joinParts out []) Q E := fun _ S => joinParts_nil ⟨_, h _, S.tok _⟩ (by rw [sizeLine_eq]; wtm_at "om")
theorem T_jp0E {out : Str} {Q : Value → Led → Prop} (hz : out.length ≤ 1000000) (h : ∀ t, Q (.str out t) σ) : T prog w C A σ (joinParts out (evalEach [] env)) Q E := T_jp0 hz h
theorem T_jp1 {out : Str} {x : Sem Value} {rest : List (Sem Value)} {Q : Value → Led → Prop} (h : T prog w C A σ x (fun v σ₁ => ∃ y t, v = .str y t ∧ out.length + y.length ≤ 1000000 ∧ T prog w C A σ₁ (joinParts (out ++ y) rest) Q E) E) : T prog w C A σ (joinParts out (x :: rest)) Q E := fun _ S =>
  joinParts_cons (h.k S fun v _ _ ⟨y, t, e, hz, h⟩ S => by
    subst e
    exact ⟨by rw [strLen_append, sizeLine_eq]; wtm_at "om", h _ S⟩)
theorem T_jp1E {out : Str} {e : Expr} {rest : List Expr} {Q : Value → Led → Prop} (h : T prog w C A σ (eval e env) (fun v σ₁ => ∃ y t, v = .str y t ∧ out.length + y.length ≤ 1000000 ∧ T prog w C A σ₁ (joinParts (out ++ y) (evalEach rest env)) Q E) E) : T prog w C A σ (joinParts out (evalEach (e :: rest) env)) Q E := T_jp1 h
theorem T_fv {value : Expr} {pos : Pos} {Q : Value → Led → Prop} (h : T prog w C A σ (eval value env) (fun v σ₁ => T prog w C A σ₁ (formatField v Str.empty) Q E) E) : T prog w C A σ (eval (.FormattedValue value (-1) none pos) env) Q E := fun _ S => FormattedValue_plain (h.k S fun _ _ _ h S => h _ S)
theorem T_fvS {x : Str} {t : Tok} {Q : Value → Led → Prop} (hz : x.length ≤ 1000000) (h : ∀ t, Q (.str x t) σ) : T prog w C A σ (formatField (.str x t) Str.empty) Q E := fun _ S =>
  withTk (formatField_str (fun t' tk hk => ⟨_, h t', S.tok tk hk⟩) (by rw [sizeLine_eq]; wtm_at "om")) S.tk
end
set_option maxHeartbeats 1000000
section
variable {prog : Program} {w : World} {C : Cx} {A : Around} {σ σ' τ : Led} {E : Value → Led → Prop} {env : Env} {s : Shared} {q : LamTab} {c : Addr}
theorem T_sortedLam {e : Expr} {p kp lp pos : Pos} {params : Arguments} {body : Expr} {scope : Scope} {clos : List (Str × Addr)} {n : Str} {Q : Value → Led → Prop} (hq : q ∈ C.lams) (hh : A.handled = none) (hroom : A.depth < recursionLimit)
    (hdef : defaultsOf params env = ([], [])) (hcl : closureFor scope env = Pure.pure clos) (hge0 : env.globals = mainGlobals) (hcode : env.code = .ref c) (hpos : q.pos = lp) (hqual : q.qual = env.qual ++ "<lambda>") (hHd : ∀ h, C.K.In h → CodeHd h c q.P)
    (hbind : ∀ pm cv ctv v, bindArgs (kla_fn "<lambda>" (env.qual ++ "<lambda>") params body scope clos pm cv ctv) ⟨[v], []⟩ = Pure.pure [(n, v)]) (hloc : scope.names.lookup n = some .local)
    (h : T prog w C A σ (eval (.Name "sorted" p) env) (fun f σ₁ => f = .builtin "sorted" ∧ T prog w C A σ₁ (eval e env) (fun v σ₂ => ∃ a x, v = .ref a ∧ (a, sps prog w [x]) ∈ σ₂ ∧
      (∀ (C' : Cx), C'.K = C.K → ∀ ρ L f c₂, T prog w C' (A.in1.in1.deeper (envX (env.qual ++ "<lambda>") scope L f (.ref c₂) clos)) ((L, .ns [(n, .str x 0)]) :: ρ ++ σ₂) (eval body (envX (env.qual ++ "<lambda>") scope L f (.ref c₂) clos)) (fun _ σ' => (ρ ++ σ₂).Sublist σ') NoE) ∧
      ∀ D, Q (.ref D) ((D, .lst [.str x 0]) :: σ₂)) E) E)
    (hco : scope.isCoroutine = false := by rfl) (hgen : scope.isGenerator = false := by rfl) (hk : scope.kind = .function := by rfl) (hcell : ∀ x ∈ scope.names, x.2 ≠ .cell := by decide)
    (he : starEach [e] env = [(false, eval e env)] := by rfl) :
    T prog w C A σ (eval (.Call (.Name "sorted" p) [e] [⟨some "key", .Lambda params body scope lp, kp⟩] pos) env) Q E := fun s S => by
  refine wpAny_Call_Name_kw (h.k S fun f σ₁ s₁ hf S₁ => ?_)
  obtain ⟨rfl, h₁⟩ := hf
  refine callWith_kw ?_ (by show backTo pos (starEach [e] env) = _; rw [he]; rfl) (by show (backTo pos (starEach [e] env)).any _ = _; rw [he]; rfl)
  refine wpAny_items_cons (h₁.k S₁ fun v σ₂ s₂ hv S₂ => ?_) (by rw [he]; rfl)
  obtain ⟨a, x, rfl, ha, hkey, hQ⟩ := hv
  refine wpAny_items_nil ?_
  refine kws_cons (lamMake S₂ hq hdef hcl hge0 hcode hpos hqual (hHd _ S₂.kin) fun f c' o vs t s₃ hd hv S₃ => kws_nil ?_)
  show wpAny _ _ (call (.builtin "sorted") [.ref a] [(Str.ofString "key", .ref f)]) _ _ s₃
  have key := T_sorted1 (prog := prog) (w := w) (A := A) (E := E) (C := C.withLam q hq (c', o)) (σ := (f, .prd (LamO (env.qual ++ "<lambda>") params body scope clos c')) :: σ₂) (a := a) (q := f) (x := x) (Q := fun v σ' => ∃ σ'', σ''.Sublist σ' ∧ Q v σ'') (.tail _ ha) hh (fun ρ t' s₄ S₄ => ?_) fun D => ⟨_, (List.sublist_cons_self _ _).cons_cons _, hQ D⟩
  · refine wpAny_mono (key s₃ S₃) (fun v s' ⟨σ', ⟨σ'', hs, hq'⟩, S'⟩ => ⟨σ'', hq', (S'.sub hs).noLam⟩) fun e s' ⟨σ', he, S'⟩ => ⟨σ', he, S'.noLam⟩
  · refine wpAny_call (lamCall (binds := [(n, .str x t')]) S₄ (List.mem_append_right _ (.head _)) hd hv hroom (fun pm ctv => hbind _ _ _ _) (fun y hy => by rw [List.mem_singleton.mp hy]; exact hloc) (fun L s₅ S₅ => ?_) hco hgen hk hcell)
    have S₆ : Sat (C.withLam q hq (c', o)) ((L, .ns [(n, .str x 0)]) :: (ρ ++ [(f, .prd (LamO (env.qual ++ "<lambda>") params body scope clos c'))]) ++ σ₂) s₅ := by
      rw [List.cons_append, List.append_assoc]
      exact S₅
    refine (hkey (C.withLam q hq (c', o)) rfl (ρ ++ [(f, .prd (LamO (env.qual ++ "<lambda>") params body scope clos c'))]) L f c').kN S₆ fun v σ' s' hs S' => ?_
    refine ⟨_, List.Sublist.refl _, S'.sub ?_⟩
    rw [List.append_assoc] at hs
    exact hs
end
set_option maxHeartbeats 1000000
theorem mb_qname {K : Frag} {P : Params} (hK : K = KK P) : MB K 199 (Str.ofString "_qname") 139 := by
  subst hK
  exact ⟨by kernel_rfl!, by kernel_rfl!, by kernel_rfl!, by kernel_rfl!, by kernel_rfl!, by kernel_rfl!, by kernel_rfl!⟩
local macro_rules | `(tactic| wtm_at "t_lc") => `(tactic| first
  | ((with_reducible refine' T_LC _ ?lc1 ?lc2 ?lc3 ?_ ?lc5); (case lc1 => exact rfl); (case lc2 => exact rfl); (case lc3 => decide); (case lc5 => intro _; rfl))
  | ((with_reducible refine' T_LCu _ ?lc0 ?lc1 ?lc2 ?lc3 ?_ ?lc5); (case lc0 => exact rfl); (case lc1 => exact rfl); (case lc2 => exact rfl); (case lc3 => decide); (case lc5 => intro _; rfl)))
local macro_rules | `(tactic| wtm_at "t_dc") => `(tactic| first
  | ((with_reducible refine' T_DCu _ ?lc0 ?lc1 ?lc2 ?lc3 ?_ ?lc5); (case lc0 => exact rfl); (case lc1 => exact rfl); (case lc2 => exact rfl); (case lc3 => decide); (case lc5 => intro _; rfl)))
noncomputable def lam03 : LamTab := { P := 172, pos := ⟨181, 71, 181, 96⟩, qual := (Str.ofString "C14NWriterTarget._start" ++ Str.ofString ".<locals>.") ++ Str.ofString "<lambda>" }
theorem hd174 {K : Frag} {P : Params} (hK : K = KK P) (h : Heap) (X : K.In h) : CodeHd h 174 172 := by
  subst hK
  exact ⟨_, _, _, _, _, _, _, _, _, X _ _ (lookup_KK rfl rfl), rfl, rfl, rfl, rfl, rfl, rfl, rfl, rfl, by decide⟩
structure WS where
  (x d wa wl da et de dl tt ns pm ps : Addr)
  P : Str → Bool
  n : Nat
  nl : List Addr
  nsl : List Value
  k : Nat
  (seen dn : Bool)
  ign : Int
  (ds ws : List Str)
noncomputable def WS.led (prog : Program) (w : World) (p : WS) : Led :=
  (p.x, .ins 199 p.d) :: (p.d, .idc (wrF p.wa p.da p.et p.de p.ns p.pm p.ps p.seen p.dn p.ign)) :: (p.wa, .raw (bndO "list.append" (.ref p.wl))) :: (p.wl, .lst (txts p.ws)) :: (p.da, .lst (txts p.ds)) ::
  (p.et, stp prog w p.P p.n) :: (p.de, .lst (decl p.dl p.nl)) :: (p.dl, .lst [.ref p.tt]) :: (p.tt, .tup [.str xmlU 0, .str xmlP 0]) :: (p.ns, .lst p.nsl) :: (p.ps, .lst (List.replicate (p.k + 1) (.bool false))) :: p.nl.map fun a => (a, .lst [])
structure WS.Ok (p : WS) : Prop where
  n : p.n ≤ 1000
  nl : p.nl.length ≤ 100
  nsl : p.nsl.length ≤ 100
  k : p.k ≤ 100
  ds : p.ds.length ≤ 100
  ws : p.ws.length ≤ 900
section
variable {prog : Program} {w : World} {C : Cx} {A : Around} {σ σ' ρ : Led} {E : Value → Led → Prop} {env : Env} {s : Shared} {p : WS} {tag : Str} {t : Tok}
theorem TC.nd {c : Code} {Q : Result → Led → Prop} (h : (σ.map (·.1)).Nodup → TC prog w C A σ c Q) : TC prog w C A σ c Q := fun s S => h S.nd s S
theorem nl_led {a : Addr} (h : a ∈ p.nl) : (a, PO.lst []) ∈ p.led prog w := by
  unfold WS.led
  iterate 11 apply List.Mem.tail
  exact List.mem_map_of_mem (f := fun a => (a, PO.lst [])) h
theorem dl_nl (nd : (σ.map (·.1)).Nodup) (hs : (p.led prog w).Sublist σ) : p.dl ∉ p.nl := fun hm => by
  have h1 := (hs.map (·.1)).nodup nd
  unfold WS.led at h1
  simp only [List.map_cons, List.map_map, List.nodup_cons] at h1
  exact h1.2.2.2.2.2.2.2.1 (.tail _ (.tail _ (.tail _ (by
    have : p.nl.map ((fun q : Addr × PO => q.1) ∘ fun a => (a, PO.lst [])) = p.nl := by
      rw [show ((fun q : Addr × PO => q.1) ∘ fun a => (a, PO.lst [])) = id from rfl, List.map_id]
    rw [this]; exact hm))))
theorem TC_qname {R' : Result → Led → Prop} (hK : C.K = KK w.params) (R : Rm 4 A) (hs : (p.led prog w).Sublist σ) (hp : p.Ok) (htag : (Txt.slice tag none (some 1)).cps.toList ≠ (Str.ofString "{").cps.toList) (hz : tag.length ≤ 1000)
    (h : ∀ T, R' (.ok (.ret (.ref T))) ((T, .tup [.str tag 0, .str tag 0, .str Str.empty 0]) :: σ)) : TC prog w C A σ (.call (.ref 139) ⟨[.ref p.x, .str tag t], []⟩) R' := TC.nd fun nd s S => by
  have m : ∀ {q}, q ∈ p.led prog w → q ∈ σ := fun h => hs.subset h
  refine wr_qnameC (tt := p.tt) (R' := fun r s' => ∃ σ', R' r σ' ∧ Sat C σ' s') hK S R (m (.head _)) (m (.tail _ (.head _))) (m ?_) (m ?_) (m ?_) (fun n hn => m (nl_led hn)) (dl_nl nd hs) htag hz (Nat.le_trans hp.nl (by decide)) fun T s' S' => ⟨_, h T, S'⟩
  · unfold WS.led; wtm_at "r_mem"
  · unfold WS.led; wtm_at "r_mem"
  · unfold WS.led; wtm_at "r_mem"
end
set_option maxHeartbeats 1000000
section
variable {prog : Program} {w : World} {C : Cx} {A : Around} {σ σ' τ : Led} {E : Value → Led → Prop} {env : Env} {s : Shared} {l a b d : Addr} {xs : List Value} {x y : Str} {t u v : Tok} {k : Int} {kvs : List (Str × Value)}
theorem splitMS {Q : Value → Shared → Prop} (S : Sat C σ s) (hy : (y.length == 0) = false) (hk : (decide (k < -(2 ^ 63 : Int)) || decide (k ≥ 2 ^ 63)) = false) (hx : x.length ≤ 1000000)
    (h : ∀ D s', Sat C ((D, .lst (txts (Txt.splitMax x y k))) :: σ) s' → Q (.ref D) s') : wpAny (model prog w) A (call (.builtin "str.split") [.str x t, .str y u, .int k v]) Q (fun _ _ => False) s := by
  have hsz : x.length ≤ sizeLine := by rw [sizeLine_eq]; wtm_at "om"
  have hn : (Builtin.Str.partsBetween x (Builtin.Str.occurrences x y 0 x.length (limitOf x k)) y.length).length ≤ sizeLine := by
    have e1 := StrLaws.occ_length_le_len x y 0 x.length (limitOf x k)
    rw [length_partsBetween, sizeLine_eq]; wtm_at "om"
  have key : ∀ (l : List (Str × Tok)) k', l.map (·.1) = Txt.splitMax x y k → 0 < k' → Q (.ref s.heap.objs.size) { s with toks := k', heap := s.heap.push { cls := .type "list", data := .seq (strValues l).toArray } }   := fun l k' e hk => by
    refine h _ _ (S.push (p := .lst _) ⟨_, 0, rfl, ?_⟩ rfl k')
    rw [strs_er, e]
  cases h1 : (decide (x.length < y.length) || decide (Builtin.Str.strKind x < Builtin.Str.strKind y))
  · cases hf : (Builtin.Str.occurrences x y 0 x.length (limitOf x k)).isEmpty
    · refine call_meets F.slot_str_split (typeIs_str _ _ _) F.entry_str_split (F.args_str_split_3 _ _ _) (meets_str_split_sep_max x y k t u v hk h1 hy hf hsz hn) ?_
      show wants Q _ _ { s with toks := _, heap := s.heap.push { cls := .type "list", data := .seq (strsFrom s.toks (Builtin.Str.partsBetween x (Builtin.Str.occurrences x y 0 x.length (limitOf x k)) y.length)).toArray } }
      rw [strsFrom_eq]
      exact key (numbered s.toks _) _ ((numbered_texts _ _).trans ((if_neg (ne_true_of_eq_false h1)).trans (if_neg (ne_true_of_eq_false hf))).symm) (by wtm_at "r_pos")
    · exact call_meets F.slot_str_split (typeIs_str _ _ _) F.entry_str_split (F.args_str_split_3 _ _ _) (meets_str_split_max_not_found x y k t u v hk h1 hy hf)
        (key [(x, t)] _ ((if_neg (ne_true_of_eq_false h1)).trans (if_pos hf)).symm (by wtm_at "r_pos"))
  · exact call_meets F.slot_str_split (typeIs_str _ _ _) F.entry_str_split (F.args_str_split_3 _ _ _) (meets_str_split_max_cannot_occur x y k t u v hk h1)
      (key [(x, t)] _ (if_pos h1).symm (by wtm_at "r_pos"))
theorem T_splitM {Q : Value → Led → Prop} (hy : (y.length == 0) = false) (hk : (decide (k < -(2 ^ 63 : Int)) || decide (k ≥ 2 ^ 63)) = false) (hx : x.length ≤ 1000000)
    (h : ∀ D, Q (.ref D) ((D, .lst (txts (Txt.splitMax x y k))) :: σ)) : T prog w C A σ (call (.builtin "str.split") [.str x t, .str y u, .int k v]) Q E := fun _ S =>
  wpAny_mono (splitMS (Q := fun v s' => ∃ σ', Q v σ' ∧ Sat C σ' s') S hy hk hx fun D _ S' => ⟨_, h D, S'⟩) (fun _ _ h => h) fun _ _ h => h.elim
theorem T_callAppB {v : Value} {Q : Value → Led → Prop} (ha : (a, .raw (bndO "list.append" (.ref l))) ∈ σ) (U : Upd l (.lst xs) (.lst (xs ++ [er v])) σ σ') (hz : xs.length ≤ 1000000) (h : Q .none σ') : T prog w C A σ (call (.ref a) [v]) Q E := fun _ S => callAppB S ha U hz fun _ S' => ⟨_, h, S'⟩
end
local macro_rules | `(tactic| wtm_at "t_ev") => `(tactic| ((with_reducible refine T_negI ?_); intro _))
local macro_rules | `(tactic| wtm_at "t_ev") => `(tactic| (with_reducible refine T_neg ?_))
local macro_rules | `(tactic| wtm_at "t_ev") => `(tactic| ((with_reducible refine T_addI ?_); intro _))
set_option maxHeartbeats 1000000
section
variable {prog : Program} {w : World} {C : Cx} {A : Around} {σ σ' ρ : Led} {E : Value → Led → Prop} {env : Env} {s : Shared} {p : WS} {tag : Str} {t : Tok} {ad nn : Addr}
theorem sub_cons {α : Type} {a b : α} {l l' : List α} (h : a = b) (hl : l.Sublist l') : (a :: l).Sublist (b :: l') := h ▸ hl.cons_cons a
theorem last_rep {k : Nat} {v : Value} : (List.replicate (k + 1) v)[(-1 + ((List.replicate (k + 1) v).length : Int)).toNat]? = some v := by
  rw [List.length_replicate, show (-1 + ((k + 1 : Nat) : Int)).toNat = k by wtm_at "om"]
  simp
theorem TC.out {c : Code} {R R' : Result → Led → Prop} (h : TC prog w C A σ c R') (hR : ∀ r σ', R' r σ' → ∃ σ'', R r σ'' ∧ ∀ s, Sat C σ' s → Sat C σ'' s) : TC prog w C A σ c R := fun s S =>
  codeAny_mono (h s S) fun r s' ⟨σ', h1, S'⟩ => let ⟨σ'', h2, k⟩ := hR r σ' h1; ⟨σ'', h2, k s' S'⟩
theorem T__start {Q : Value → Led → Prop} (hK : C.K = KK w.params) (hL : lam03 ∈ C.lams) (R : Rm 6 A) (hp : p.Ok) (had : (ad, dcp prog w []) ∈ ρ) (hnn : nn ∈ p.nl) (htag : (Txt.slice tag none (some 1)).cps.toList ≠ (Str.ofString "{").cps.toList) (hz : tag.length ≤ 1000)
    (h : ∀ m, Q .none (WS.led prog w { p with ws := p.ws ++ [Str.ofString "<" ++ tag, Str.ofString ">"], k := p.k + 1, seen := true, nsl := p.nsl ++ [.ref m] } ++ ρ)) :
    T prog w C A (p.led prog w ++ ρ) (call (.ref 175) [.ref p.x, .str tag t, .ref ad, .ref nn]) Q E := by
  refine T_callTC ?_
  refine' T_callG (m := [(Str.ofString "qname_text", .none), (Str.ofString "new_namespaces", .ref nn), (Str.ofString "attrs", .ref ad), (Str.ofString "tag", .str tag 0)]) (binds := [(Str.ofString "self", .ref p.x), (Str.ofString "tag", .str tag t), (Str.ofString "attrs", .ref ad), (Str.ofString "new_namespaces", .ref nn), (Str.ofString "qname_text", .none)])
    (fun L => [(Str.ofString "parse_qname", L + 1 + 1), (Str.ofString "self", L + 1)]) (fun L => [(L + 1 + 1, .cel none), (L + 1, .cel (some (.ref p.x)))]) R.room (ho := ?ho) (hcd := ?hcd) (hbind := ?hb) (hloc := ?hloc) (hm := ?hm) (hcells := ?hc1) (hcv := ?hc2) (hnd := ?hc3) (hnd2 := ?hc4) (h := ?h) (hco := ?hco) (hgen := ?hgen) (hk := ?hk)
  case ho => rw [hK]; exact lookup_KK rfl rfl
  case hcd => wtm_at "r_k"
  case hb => exact fun s X => kp_binds (K := KK w.params) (hK ▸ X) fun S => by kernel_rfl!
  case hloc => kernel_rfl
  case hm => exact rfl
  case hco => rfl
  case hgen => rfl
  case hk => rfl
  case hc1 => exact fun L => rfl
  case hc2 => exact fun L => rfl
  case hc3 => decide
  case hc4 => exact fun L => rfl
  intro L
  unfold WS.led wrF
  dsimp only [List.cons_append, List.nil_append]
  have had' : (ad, dcp prog w []) ∈ List.map (fun a => (a, PO.lst [])) p.nl ++ ρ := List.mem_append_right _ had
  have hnn' : (nn, PO.lst []) ∈ List.map (fun a => (a, PO.lst [])) p.nl ++ ρ := List.mem_append_left _ (List.mem_map_of_mem (f := fun a => (a, PO.lst [])) hnn)
  have hsub : (p.led prog w).Sublist (WS.led prog w p ++ ρ) := List.sublist_append_left _ _
  unfold WS.led wrF at hsub
  dsimp only [List.cons_append, List.nil_append] at hsub
  revert had' hnn' hsub
  generalize hρ : List.map (fun a => (a, PO.lst [])) p.nl ++ ρ = ρ'
  intro had' hnn' hsub
  wtm_at "t_go"
  refine T_SetStar0 (by wtm_at "r_k") rfl (fun S => ?_) R.hand
  wtm_at "t_go"
  refine ⟨_, _, _, rfl, by wtm_at "r_upd", ?_⟩
  wtm_at "t_go"
  refine ⟨ad, rfl, by wtm_at "r_mem", by wtm_at "r_mem", ?_⟩
  wtm_at "t_go"
  refine T_getBnd (by wtm_at "r_mem") (by wtm_at "r_mem") (mb_qname hK) (by kernel_rfl!) (fun q => ?_)
  wtm_at "t_go"
  wtm_at "t_dc"
  refine T_sortedLam (q := lam03) (c := 174) hL R.hand (Rm.room (R.down.deeper _)) rfl rfl rfl rfl rfl rfl (hd174 hK) (fun _ _ _ _ => rfl) rfl ?_
  wtm_at "t_go"
  refine ⟨rfl, ?_⟩
  wtm_at "t_go"
  refine ⟨S, tag, rfl, by wtm_at "r_mem", ?_, ?_⟩
  · intro C' hC' ρ₂ L₂ f cv
    dsimp only [List.cons_append]
    wtm_at "t_go"
    dsimp only [List.cons_append, List.nil_append]
    refine T_splitM rfl rfl (by wtm_at "om") fun _ => ?_
    exact (List.sublist_cons_self _ _).trans (List.sublist_cons_self _ _)
  · intro D
    refine T_iterL (.head _) fun it => ?_
    generalize hG : (Prod.mk q (bndM 139 p.x)) = gq
    generalize hτ : ((D, PO.lst [Value.str tag 0]) :: _ : Led) = τ₀
    have hq0 : (q, bndM 139 p.x) ∈ τ₀ := by rw [← hτ, hG]; exact .tail _ (.head _)
    have hD0 : (D, PO.lst [Value.str tag 0]) ∈ τ₀ := by rw [← hτ]; exact .head _
    refine T_DCB (itsL (l := D) (xs := [.str tag 0]) R.hand) (need := fun τ => (D, PO.lst [.str tag 0]) ∈ τ) (fun r ac τ => (r = [.str tag 0] ∧ ac = [] ∧ τ = τ₀) ∨ (r = [] ∧ ∃ T, ac = [(tag, .ref T)] ∧ τ = (T, .tup [.str tag 0, .str tag 0, .str Str.empty 0]) :: τ₀)) (.inl ⟨rfl, rfl, rfl⟩) ?_ ?_ rfl rfl (by decide) ?_ ?_
    · rintro r ac τ (⟨_, _, rfl⟩ | ⟨_, T, _, rfl⟩)
      · exact hD0
      · exact .tail _ hD0
    · rintro r ac τ (⟨_, rfl, _⟩ | ⟨_, T, rfl, _⟩) <;> exact Nat.le_of_ble_eq_true rfl
    · rintro D' L' pv r ac τ i m (⟨hr, rfl, rfl⟩ | ⟨hr, _⟩)
      · obtain ⟨rfl, rfl⟩ := List.cons.inj hr
        subst hG
        subst hτ
        wtm_at "t_go"
        refine' T_callBM ?k1 ?k2 ?k3 ?_
        case k1 => wtm_at "r_mem"
        case k2 => rw [hK]; exact lookup_KK rfl rfl
        case k3 => rfl
        wtm_at "t_go"
        refine ⟨by wtm_at "r_mem", ?_⟩
        dsimp only [List.cons_append, List.nil_append, List.map_cons, List.map_nil, er]
        refine T_bm (by wtm_at "r_mem") ?_
        refine TC.out (R' := fun r σ' => ∃ T, r = .ok (.ret (.ref T)) ∧ σ' = (T, PO.tup [.str tag 0, .str tag 0, .str Str.empty 0]) :: _) (TC_qname hK (R.down.deeper _) ?hs1 hp htag hz fun T => ⟨T, rfl, rfl⟩) ?_
        case hs1 => repeat (first | exact hsub | apply List.Sublist.cons)
        rintro r σ' ⟨T, rfl, rfl⟩
        refine ⟨_, ⟨tag, _, _, rfl, .inr ⟨rfl, T, rfl, rfl⟩, List.Sublist.refl _⟩, fun s S => S.perm ?_⟩
        exact ((List.Perm.swap _ _ _).trans ((((List.Perm.swap _ _ _).trans ((List.Perm.swap _ _ _).cons _)).cons _)))
      · cases hr
    · rintro ac τ (⟨hr, _⟩ | ⟨_, T, rfl, rfl⟩)
      · cases hr
      · subst hτ
        intro L' D' m'
        wtm_at "t_go"
        refine ⟨_, _, .cons_cons _ (.cons_cons _ (.cons_cons _ (.cons _ (.cons _ (.cons_cons _ (.cons _ (List.Sublist.refl _))))))), ?_⟩
        wtm_at "t_go"
        refine T_trD (by wtm_at "r_mem") (by wtm_at "r_len") ?_
        wtm_at "t_go"
        refine T_gmGet (by wtm_at "r_mem") ?_
        wtm_at "t_go"
        refine T_getNone (by wtm_at "r_mem") rfl ?_
        wtm_at "t_go"
        refine T_itemLneg (by wtm_at "r_mem") (by decide) (by rw [List.length_replicate]; wtm_at "om") (by decide) last_rep ?_
        dsimp only [Vs, er]
        have hk1 : (List.replicate (p.k + 1) (Value.bool false)).length ≤ 1000000 := by rw [List.length_replicate]; have := hp.k; wtm_at "om"
        have hw1 : (txts p.ws).length ≤ 1000000 := by unfold txts; rw [List.length_map]; have := hp.ws; wtm_at "om"
        have hw2 : ∀ v, (txts p.ws ++ [v]).length ≤ 1000000 := by intro v; unfold txts; rw [List.length_append, List.length_map]; have := hp.ws; show _ + 1 ≤ _; wtm_at "om"
        have hn1 : p.nsl.length ≤ 1000000 := by have := hp.nsl; wtm_at "om"
        wtm_at "t_go"
        refine T_itemD (by wtm_at "r_mem") (pv := .ref T) (by simp [valueAt]) ?_
        dsimp only [Vs, er]
        wtm_at "t_go"
        refine T_itemT (by wtm_at "r_mem") (by decide) (by decide) rfl ?_
        dsimp only [Vs, er]
        wtm_at "t_go"
        refine T_addS (by have : (Str.ofString "<").length = 1 := rfl
                          wtm_at "om") fun _ => ?_
        wtm_at "t_go"
        dsimp only [List.cons_append, List.nil_append]
        refine T_callAppB (by wtm_at "r_mem") (by wtm_at "r_upd") hw1 ?_
        wtm_at "t_go"
        dsimp only [List.cons_append, List.nil_append]
        refine T_callAppB (by wtm_at "r_mem") (by wtm_at "r_upd") (hw2 _) ?_
        wtm_at "t_go"
        have e1 : ∀ a b, txts (p.ws ++ [a, b]) = txts p.ws ++ [.str a 0] ++ [.str b 0] := by intro a b; simp [txts]
        have e2 : List.replicate (p.k + 1 + 1) (Value.bool false) = List.replicate (p.k + 1) (Value.bool false) ++ [.bool false] := List.replicate_succ'
        rename_i nsm
        refine ⟨_, ?_, h nsm⟩
        subst hρ
        unfold WS.led
        dsimp only [List.cons_append]
        rw [e1, e2]
        iterate 8 apply List.Sublist.cons
        apply List.Sublist.cons_cons
        refine sub_cons (by kernel_rfl!) ?_
        exact List.Sublist.refl _
end
set_option maxHeartbeats 1000000
noncomputable def amp : Str := Str.ofString " & "
noncomputable def ampE (ds : List Str) : Str := escC (Builtin.Str.glued Str.empty ds)
section
variable {prog : Program} {w : World} {C : Cx} {A : Around} {σ σ' ρ : Led} {E : Value → Led → Prop} {env : Env} {s : Shared} {p : WS} {tag u : Str} {t : Tok} {ad nn : Addr} {Q : Value → Led → Prop}
theorem txts_snoc {l : List Str} {a : Str} : txts (l ++ [a]) = txts l ++ [.str a 0] := List.map_append
theorem T_data (hK : C.K = KK w.params) (R : Rm 2 A) (hz : p.ds.length ≤ 1000) (h : Q .none (WS.led prog w { p with ds := if p.ign = 0 then p.ds ++ [u] else p.ds } ++ ρ)) :
    T prog w C A (p.led prog w ++ ρ) (call (.ref 146) [.ref p.x, .str u t]) Q E := fun s S => by
  unfold WS.led at *
  dsimp only [List.cons_append] at *
  exact wr_data (σ' := _) hK S R (.head _) (.tail _ (.head _)) (by wtm_at "r_upd") hz fun s' S' => ⟨_, h, S'⟩
theorem T_flush (hK : C.K = KK w.params) (R : Rm 4 A) (hs : p.seen = true) (hd : p.ds = [amp] ∨ p.ds = [amp, amp]) (hz : p.ws.length ≤ 1000)
    (h : Q .none (WS.led prog w { p with ds := [], ws := p.ws ++ [ampE p.ds] } ++ ρ)) :
    T prog w C A (p.led prog w ++ ρ) (call (.ref 155) [.ref p.x]) Q E := fun s S => by
  unfold WS.led at *
  dsimp only [List.cons_append] at *
  rw [txts_snoc] at h
  rw [hs] at S h
  have key : ∀ (ds : List Str), ds = [amp] ∨ ds = [amp, amp] → ∃ r, Builtin.Str.glued Str.empty ds = r ∧ (r.length == 0) = false ∧ ds.length ≤ 1000 ∧ ds.foldl (fun n p => n + p.length + Str.empty.length) 0 ≤ 1000000 ∧ short r ∧ short (esc1 r (Str.ofString "&") (Str.ofString "&amp;")) ∧ short (esc1 (esc1 r (Str.ofString "&") (Str.ofString "&amp;")) (Str.ofString "<") (Str.ofString "&lt;")) ∧
      short (esc1 (esc1 (esc1 r (Str.ofString "&") (Str.ofString "&amp;")) (Str.ofString "<") (Str.ofString "&lt;")) (Str.ofString ">") (Str.ofString "&gt;")) := by
    rintro ds (rfl | rfl)
    · refine ⟨_, rfl, ?_⟩
      unfold short
      decide +kernel
    · refine ⟨_, rfl, ?_⟩
      unfold short
      decide +kernel
  obtain ⟨r, k1, k2, k3, k4, k5, k6, k7, k8⟩ := key _ hd
  exact wr_flush hK S R (.head _) (.tail _ (.head _)) (.tail _ (.tail _ (.head _))) (Upd.tail (Upd.tail (Upd.tail (Upd.tail Upd.head)))) (Upd.tail (Upd.tail (Upd.tail Upd.head))) (.head _) (.tail _ (.head _)) (.tail _ (.tail _ (.head _))) k1 k2 k3 k4 hz k5 k6 k7 k8 fun s' S' => ⟨_, h, S'⟩
end
set_option maxHeartbeats 1000000
theorem perm1 {α : Type} {b : α} {X r : List α} : (b :: (X ++ r)).Perm (X ++ (b :: r)) := List.perm_middle.symm
theorem perm2 {α : Type} {a b : α} {X N r : List α} : (a :: b :: (X ++ (N ++ r))).Perm (X ++ ((N ++ [a]) ++ (b :: r))) := by
  have h1 : ((N ++ [a]) ++ (b :: r)) = N ++ (a :: b :: r) := by rw [List.append_assoc]; rfl
  rw [h1]
  refine (List.Perm.trans (List.Perm.cons a perm1) perm1).trans (List.Perm.append_left X ?_)
  exact (List.Perm.cons a perm1).trans perm1
section
variable {prog : Program} {w : World} {C : Cx} {A : Around} {σ σ' ρ : Led} {E : Value → Led → Prop} {env : Env} {s : Shared} {p : WS} {tag u : Str} {t : Tok} {ad nn : Addr} {Q : Value → Led → Prop}
theorem T_inSet {a : Addr} {P : Str → Bool} {n : Nat} {x : Str} {Q : Value → Led → Prop} (hm : (a, stp prog w P n) ∈ σ) (hn : n < 4096) (h : Q (.bool (P x)) σ) : T prog w C A σ (compareOp .In (.str x t) (.ref a)) Q E := fun _ S => inS S hm hn fun _ S' => ⟨_, h, S'⟩
theorem T_iaddI {a b : Int} {t u : Tok} {Q : Value → Led → Prop} (h : ∀ t, Q (.int (a + b) t) σ) : T prog w C A σ (inplaceOp .Add (.int a t) (.int b u)) Q E := fun _ S => PySem.AutoIntOps.iadd_0 ⟨_, h _, S.tok _⟩
theorem T_isubI {a b : Int} {t u : Tok} {Q : Value → Led → Prop} (h : ∀ t, Q (.int (a - b) t) σ) : T prog w C A σ (inplaceOp .Sub (.int a t) (.int b u)) Q E := fun _ S => PySem.AutoIntOps.isub_0 ⟨_, h _, S.tok _⟩
theorem decl_snoc {dl a : Addr} {nl : List Addr} : decl dl (nl ++ [a]) = decl dl nl ++ [.ref a] := by unfold decl; rw [List.map_append]; rfl
theorem T_startI (hK : C.K = KK w.params) (R : Rm 6 A) (hp : p.Ok) (hi : p.ign ≠ 0 ∨ p.P tag = true)
    (h : Q .none (WS.led prog w { p with ign := p.ign + 1 } ++ ρ)) :
    T prog w C A (p.led prog w ++ ρ) (call (.ref 169) [.ref p.x, .str tag t, .ref ad]) Q E := by
  refine' T_callF (m := [(Str.ofString "attrs", .ref ad), (Str.ofString "tag", .str tag 0), (Str.ofString "self", .ref p.x)]) [(Str.ofString "self", .ref p.x), (Str.ofString "tag", .str tag t), (Str.ofString "attrs", .ref ad)] R.room (ho := ?ho) (hcd := ?hcd) (hbind := ?hb) (hloc := ?hloc) (hm := ?hm) (h := ?h) (hco := ?hco) (hgen := ?hgen) (hk := ?hk) (hcell := ?hcell)
  case ho => rw [hK]; exact lookup_KK rfl rfl
  case hcd => wtm_at "r_k"
  case hb => exact fun s X => kp_binds (K := KK w.params) (hK ▸ X) fun S => by kernel_rfl!
  case hloc => kernel_rfl
  case hm => exact rfl
  case hco => rfl
  case hgen => rfl
  case hk => rfl
  case hcell => decide
  intro L
  unfold WS.led wrF
  dsimp only [List.cons_append, List.nil_append]
  have hn := hp.n
  wtm_at "t_go"
  by_cases h0 : p.ign = 0
  · have hP := hi.resolve_left (fun x => x h0)
    refine ifF (by rw [h0]; rfl) ?_
    wtm_at "t_go"
    refine T_inSet (by wtm_at "r_mem") (by wtm_at "om") ?_
    rw [hP]
    wtm_at "t_go"
    refine T_iaddI fun _ => ?_
    wtm_at "t_go"
    refine ⟨_, ?_, h⟩
    refine List.Sublist.cons _ ?_
    unfold WS.led
    dsimp only [List.cons_append]
    apply List.Sublist.cons_cons
    refine sub_cons (by kernel_rfl!) ?_
    exact List.Sublist.refl _
  · refine ifT (by simpa using h0) ?_
    wtm_at "t_go"
    refine T_iaddI fun _ => ?_
    wtm_at "t_go"
    refine ⟨_, ?_, h⟩
    refine List.Sublist.cons _ ?_
    unfold WS.led
    dsimp only [List.cons_append]
    apply List.Sublist.cons_cons
    refine sub_cons (by kernel_rfl!) ?_
    exact List.Sublist.refl _
theorem T_startB (hK : C.K = KK w.params) (hL : lam03 ∈ C.lams) (R : Rm 9 A) (hp : p.Ok) (h0 : p.ign = 0) (hP : p.P tag = false) (hd : p.ds = []) (had : (ad, dcp prog w []) ∈ ρ) (hn1 : p.nl.length < 100) (htag : (Txt.slice tag none (some 1)).cps.toList ≠ (Str.ofString "{").cps.toList) (hz : tag.length ≤ 1000)
    (h : ∀ m₁ m₂, Q .none (WS.led prog w { p with nl := p.nl ++ [m₁], ws := p.ws ++ [Str.ofString "<" ++ tag, Str.ofString ">"], k := p.k + 1, seen := true, nsl := p.nsl ++ [.ref m₂] } ++ ρ)) :
    T prog w C A (p.led prog w ++ ρ) (call (.ref 169) [.ref p.x, .str tag t, .ref ad]) Q E := by
  refine' T_callF (m := [(Str.ofString "attrs", .ref ad), (Str.ofString "tag", .str tag 0), (Str.ofString "self", .ref p.x)]) [(Str.ofString "self", .ref p.x), (Str.ofString "tag", .str tag t), (Str.ofString "attrs", .ref ad)] R.room (ho := ?ho) (hcd := ?hcd) (hbind := ?hb) (hloc := ?hloc) (hm := ?hm) (h := ?h) (hco := ?hco) (hgen := ?hgen) (hk := ?hk) (hcell := ?hcell)
  case ho => rw [hK]; exact lookup_KK rfl rfl
  case hcd => wtm_at "r_k"
  case hb => exact fun s X => kp_binds (K := KK w.params) (hK ▸ X) fun S => by kernel_rfl!
  case hloc => kernel_rfl
  case hm => exact rfl
  case hco => rfl
  case hgen => rfl
  case hk => rfl
  case hcell => decide
  intro L
  unfold WS.led wrF
  dsimp only [List.cons_append, List.nil_append]
  rw [hd]
  have hn := hp.n
  wtm_at "t_go"
  refine ifF (by rw [h0]; rfl) ?_
  wtm_at "t_go"
  refine T_inSet (by wtm_at "r_mem") (by wtm_at "om") ?_
  rw [hP]
  have hde : (decl p.dl p.nl).length ≤ 1000000 := by unfold decl; rw [List.length_cons, List.length_map]; wtm_at "om"
  wtm_at "t_go"
  dsimp only [List.cons_append, List.nil_append]
  rename_i m₁ tk
  simp only [hd] at h
  refine T.perm (T__start (p := { p with nl := p.nl ++ [m₁], ds := [] }) (ρ := (L, PO.ns [(Str.ofString "new_namespaces", .ref m₁), (Str.ofString "attrs", .ref ad), (Str.ofString "tag", .str tag 0), (Str.ofString "self", .ref p.x)]) :: ρ) hK hL (R.down.down.deeper _) ?ok (.tail _ had) ?nn htag hz fun m => ?_) ?pm
  case pm =>
    refine (perm2 (X := [_,_,_,_,_,_,_,_,_,_,_]) (N := List.map (fun a => (a, PO.lst [])) p.nl)).trans (.of_eq ?_)
    unfold WS.led
    rw [decl_snoc, List.map_append]
    rfl
  case ok => exact ⟨hp.n, by rw [List.length_append]; exact hn1, hp.nsl, hp.k, Nat.zero_le _, hp.ws⟩
  case nn => exact List.mem_append_right _ (.head _)
  wtm_at "t_go"
  refine ⟨_, ?_, h m₁ m⟩
  exact List.Sublist.append_left (List.sublist_cons_self _ _) _
theorem T_startF (hK : C.K = KK w.params) (hL : lam03 ∈ C.lams) (R : Rm 9 A) (hp : p.Ok) (h0 : p.ign = 0) (hP : p.P tag = false) (hd : p.ds = [amp] ∨ p.ds = [amp, amp]) (hs : p.seen = true) (had : (ad, dcp prog w []) ∈ ρ) (hn1 : p.nl.length < 100) (hw1 : p.ws.length < 900) (htag : (Txt.slice tag none (some 1)).cps.toList ≠ (Str.ofString "{").cps.toList) (hz : tag.length ≤ 1000)
    (h : ∀ m₁ m₂, Q .none (WS.led prog w { p with ds := [], nl := p.nl ++ [m₁], ws := p.ws ++ [ampE p.ds] ++ [Str.ofString "<" ++ tag, Str.ofString ">"], k := p.k + 1, seen := true, nsl := p.nsl ++ [.ref m₂] } ++ ρ)) :
    T prog w C A (p.led prog w ++ ρ) (call (.ref 169) [.ref p.x, .str tag t, .ref ad]) Q E := by
  refine' T_callF (m := [(Str.ofString "attrs", .ref ad), (Str.ofString "tag", .str tag 0), (Str.ofString "self", .ref p.x)]) [(Str.ofString "self", .ref p.x), (Str.ofString "tag", .str tag t), (Str.ofString "attrs", .ref ad)] R.room (ho := ?ho) (hcd := ?hcd) (hbind := ?hb) (hloc := ?hloc) (hm := ?hm) (h := ?h) (hco := ?hco) (hgen := ?hgen) (hk := ?hk) (hcell := ?hcell)
  case ho => rw [hK]; exact lookup_KK rfl rfl
  case hcd => wtm_at "r_k"
  case hb => exact fun s X => kp_binds (K := KK w.params) (hK ▸ X) fun S => by kernel_rfl!
  case hloc => kernel_rfl
  case hm => exact rfl
  case hco => rfl
  case hgen => rfl
  case hk => rfl
  case hcell => decide
  intro L
  unfold WS.led wrF
  dsimp only [List.cons_append, List.nil_append]
  have hemp : (txts p.ds).isEmpty = false := by rcases hd with hd | hd <;> rw [hd] <;> rfl
  have hdl : (txts p.ds).length ≤ 1000000 := by rcases hd with hd | hd <;> rw [hd] <;> exact Nat.le_of_ble_eq_true rfl
  have hn := hp.n
  wtm_at "t_go"
  refine ifF (by rw [h0]; rfl) ?_
  wtm_at "t_go"
  refine T_inSet (by wtm_at "r_mem") (by wtm_at "om") ?_
  rw [hP]
  have hde : (decl p.dl p.nl).length ≤ 1000000 := by unfold decl; rw [List.length_cons, List.length_map]; wtm_at "om"
  wtm_at "t_go"
  refine ifT (by rw [hemp]; rfl) ?_
  wtm_at "t_go"
  refine T.perm (T_flush (p := p) (ρ := (L, PO.ns [(Str.ofString "attrs", .ref ad), (Str.ofString "tag", .str tag 0), (Str.ofString "self", .ref p.x)]) :: ρ) hK (R.down.down.down.down.deeper _) hs hd (by have := hp.ws; wtm_at "om") ?_) (perm1 (X := p.led prog w) (r := ρ))
  wtm_at "t_go"
  generalize hp1 : ({ p with ds := [], ws := p.ws ++ [ampE p.ds] } : WS) = p1
  have hx : p.x = p1.x := by rw [← hp1]
  rename_i m₁
  refine T.perm (σ' := (m₁, PO.lst []) :: (L, PO.ns [(Str.ofString "attrs", .ref ad), (Str.ofString "tag", .str tag 0), (Str.ofString "self", .ref p.x)]) :: (p1.led prog w ++ ρ)) ?_ ((perm1 (X := p1.led prog w) (r := ρ)).symm.cons _)
  rw [hx]
  unfold WS.led wrF
  dsimp only [List.cons_append, List.nil_append]
  have hp2 : p1.Ok := hp1 ▸ ⟨hp.n, hp.nl, hp.nsl, hp.k, Nat.zero_le _, by show (p.ws ++ [ampE p.ds]).length ≤ 900; rw [List.length_append]; exact hw1⟩
  have hn2 : p1.nl.length < 100 := hp1 ▸ hn1
  have hde : (decl p1.dl p1.nl).length ≤ 1000000 := by unfold decl; rw [List.length_cons, List.length_map]; wtm_at "om"
  have had2 : (ad, dcp prog w []) ∈ ρ := had
  have h2 : ∀ m₁ m₂, Q .none (WS.led prog w { p1 with nl := p1.nl ++ [m₁], ws := p1.ws ++ [Str.ofString "<" ++ tag, Str.ofString ">"], k := p1.k + 1, seen := true, nsl := p1.nsl ++ [.ref m₂] } ++ ρ) := by
    subst hp1; exact h
  wtm_at "t_go"
  dsimp only [List.cons_append, List.nil_append]
  rename_i tk
  refine T.perm (T__start (p := { p1 with nl := p1.nl ++ [m₁] }) (ρ := (L, PO.ns [(Str.ofString "new_namespaces", .ref m₁), (Str.ofString "attrs", .ref ad), (Str.ofString "tag", .str tag 0), (Str.ofString "self", .ref p1.x)]) :: ρ) hK hL (R.down.down.deeper _) ?ok (.tail _ had2) ?nn htag hz fun m => ?_) ?pm
  case pm =>
    refine (perm2 (X := [_,_,_,_,_,_,_,_,_,_,_]) (N := List.map (fun a => (a, PO.lst [])) p1.nl)).trans (.of_eq ?_)
    unfold WS.led
    rw [decl_snoc, List.map_append]
    rfl
  case ok => exact ⟨hp2.n, by rw [List.length_append]; exact hn2, hp2.nsl, hp2.k, hp2.ds, hp2.ws⟩
  case nn => exact List.mem_append_right _ (.head _)
  wtm_at "t_go"
  refine ⟨_, ?_, h2 m₁ m⟩
  exact List.Sublist.append_left (List.sublist_cons_self _ _) _
end
set_option maxHeartbeats 1000000
section
variable {prog : Program} {w : World} {C : Cx} {A : Around} {σ σ' ρ : Led} {E : Value → Led → Prop} {env : Env} {s : Shared} {p : WS} {tag u : Str} {t : Tok} {ad nn : Addr} {Q : Value → Led → Prop}
theorem T_endI (hK : C.K = KK w.params) (R : Rm 6 A) (hi : p.ign ≠ 0)
    (h : Q .none (WS.led prog w { p with ign := p.ign - 1 } ++ ρ)) :
    T prog w C A (p.led prog w ++ ρ) (call (.ref 182) [.ref p.x, .str tag t]) Q E := by
  refine' T_callF (m := [(Str.ofString "tag", .str tag 0), (Str.ofString "self", .ref p.x)]) [(Str.ofString "self", .ref p.x), (Str.ofString "tag", .str tag t)] R.room (ho := ?ho) (hcd := ?hcd) (hbind := ?hb) (hloc := ?hloc) (hm := ?hm) (h := ?h) (hco := ?hco) (hgen := ?hgen) (hk := ?hk) (hcell := ?hcell)
  case ho => rw [hK]; exact lookup_KK rfl rfl
  case hcd => wtm_at "r_k"
  case hb => exact fun s X => kp_binds (K := KK w.params) (hK ▸ X) fun S => by kernel_rfl!
  case hloc => kernel_rfl
  case hm => exact rfl
  case hco => rfl
  case hgen => rfl
  case hk => rfl
  case hcell => decide
  intro L
  unfold WS.led wrF
  dsimp only [List.cons_append, List.nil_append]
  wtm_at "t_go"
  refine ifT (by simpa using hi) ?_
  wtm_at "t_go"
  refine T_isubI fun _ => ?_
  wtm_at "t_go"
  refine ⟨_, ?_, h⟩
  refine List.Sublist.cons _ ?_
  unfold WS.led
  dsimp only [List.cons_append]
  apply List.Sublist.cons_cons
  refine sub_cons (by kernel_rfl!) ?_
  exact List.Sublist.refl _
theorem T_endB {nl : List Addr} {m₁ m₂ : Addr} {nsl : List Value} {k : Nat} (hK : C.K = KK w.params) (R : Rm 9 A) (hp : p.Ok) (h0 : p.ign = 0) (hd : p.ds = []) (hnl : p.nl = nl ++ [m₁]) (hns : p.nsl = nsl ++ [.ref m₂]) (hk : p.k = k + 1) (htag : (Txt.slice tag none (some 1)).cps.toList ≠ (Str.ofString "{").cps.toList) (hz : tag.length ≤ 1000)
    (h : ∀ dn, Q .none (WS.led prog w { p with nl := nl, nsl := nsl, k := k, dn := dn, ws := p.ws ++ [Str.ofString "</" ++ tag ++ Str.ofString ">"] } ++ ρ)) :
    T prog w C A (p.led prog w ++ ρ) (call (.ref 182) [.ref p.x, .str tag t]) Q E := by
  refine' T_callF (m := [(Str.ofString "tag", .str tag 0), (Str.ofString "self", .ref p.x)]) [(Str.ofString "self", .ref p.x), (Str.ofString "tag", .str tag t)] R.room (ho := ?ho) (hcd := ?hcd) (hbind := ?hb) (hloc := ?hloc) (hm := ?hm) (h := ?h) (hco := ?hco) (hgen := ?hgen) (hk := ?hk) (hcell := ?hcell)
  case ho => rw [hK]; exact lookup_KK rfl rfl
  case hcd => wtm_at "r_k"
  case hb => exact fun s X => kp_binds (K := KK w.params) (hK ▸ X) fun S => by kernel_rfl!
  case hloc => kernel_rfl
  case hm => exact rfl
  case hco => rfl
  case hgen => rfl
  case hk => rfl
  case hcell => decide
  intro L
  have hsub : (p.led prog w).Sublist (p.led prog w ++ ρ) := List.sublist_append_left _ _
  unfold WS.led wrF at hsub
  unfold WS.led wrF
  dsimp only [List.cons_append, List.nil_append] at hsub ⊢
  have hemp : (txts p.ds).isEmpty = true := by rw [hd]; rfl
  have hdl : (txts p.ds).length ≤ 1000000 := by rw [hd]; exact Nat.le_of_ble_eq_true rfl
  have e2 : (Str.empty ++ Str.ofString "</").length = 2 := rfl
  have e1 : (Str.ofString ">").length = 1 := rfl
  wtm_at "t_go"
  refine ifF (by rw [h0]; rfl) ?_
  wtm_at "t_go"
  refine ifF (by rw [hemp]; rfl) ?_
  wtm_at "t_go"
  refine T_FStr (T_jp1 ?_)
  wtm_at "t_go"
  refine ⟨_, _, rfl, Nat.le_of_ble_eq_true rfl, ?_⟩
  refine T_jp1 (T_fv ?_)
  wtm_at "t_go"
  refine T_callTC ?_
  refine TC_qname hK (R.down.down.down.down.deeper _) (List.Sublist.cons _ hsub) hp htag hz fun T => ?_
  wtm_at "t_go"
  refine T_itemT (by wtm_at "r_mem") (by decide) (by decide) rfl ?_
  dsimp only [Vs, er]
  intro _
  refine T_fvS (by wtm_at "om") fun _ => ?_
  refine ⟨_, _, rfl, by wtm_at "om", ?_⟩
  refine T_jp1E ?_
  wtm_at "t_go"
  refine ⟨_, _, rfl, by rw [Str.length_append]; wtm_at "om", ?_⟩
  refine T_jp0E (by rw [Str.length_append, Str.length_append]; wtm_at "om") fun _ => ?_
  have hw1 : (txts p.ws).length ≤ 1000000 := by unfold txts; rw [List.length_map]; have := hp.ws; wtm_at "om"
  have hr1 : (List.replicate (k + 1) (Value.bool false)).length ≤ 1000000 := by rw [List.length_replicate]; have := hp.k; wtm_at "om"
  have hde : (decl p.dl nl).length ≤ 1000000 := by unfold decl; rw [List.length_cons, List.length_map]; have := hp.nl; rw [hnl, List.length_append] at this; wtm_at "om"
  have hnn : nsl.length ≤ 1000000 := by have := hp.nsl; rw [hns, List.length_append] at this; wtm_at "om"
  wtm_at "t_go"
  dsimp only [List.cons_append, List.nil_append]
  refine T_callAppB (by wtm_at "r_mem") (by wtm_at "r_upd") hw1 ?_
  rw [hnl, hns, hk, decl_snoc, show List.replicate (k + 1 + 1) (Value.bool false) = List.replicate (k + 1) (Value.bool false) ++ [.bool false] from List.replicate_succ', List.map_append]
  wtm_at "t_go"
  dsimp only [List.cons_append, List.nil_append]
  refine T_pop (by wtm_at "r_upd") hr1 ?_
  wtm_at "t_go"
  dsimp only [Vs]
  wtm_at "t_go"
  dsimp only [List.cons_append, List.nil_append]
  refine T_lenL (by wtm_at "r_mem") hr1 fun _ => ?_
  wtm_at "t_go"
  dsimp only [List.cons_append, List.nil_append]
  refine T_pop (by wtm_at "r_upd") hde ?_
  dsimp only [Vs]
  wtm_at "t_go"
  dsimp only [List.cons_append, List.nil_append]
  refine T_pop (by wtm_at "r_upd") hnn ?_
  dsimp only [Vs]
  wtm_at "t_go"
  have e3 : Str.empty ++ Str.ofString "</" = Str.ofString "</" := by kernel_rfl
  refine ⟨_, ?_, h (((List.replicate (k + 1) (Value.bool false)).length : Int) == 1)⟩
  rw [e3]
  unfold WS.led
  dsimp only [List.cons_append]
  rw [txts_snoc]
  apply List.Sublist.cons
  apply List.Sublist.cons
  apply List.Sublist.cons_cons
  refine sub_cons (by kernel_rfl!) ?_
  iterate 9 apply List.Sublist.cons_cons
  rw [List.append_assoc]
  exact List.Sublist.append_left (List.sublist_append_right _ _) _
theorem T_endF {nl : List Addr} {m₁ m₂ : Addr} {nsl : List Value} {k : Nat} (hK : C.K = KK w.params) (R : Rm 9 A) (hp : p.Ok) (h0 : p.ign = 0) (hd : p.ds = [amp] ∨ p.ds = [amp, amp]) (hs : p.seen = true) (hw : p.ws.length < 900) (hnl : p.nl = nl ++ [m₁]) (hns : p.nsl = nsl ++ [.ref m₂]) (hk : p.k = k + 1) (htag : (Txt.slice tag none (some 1)).cps.toList ≠ (Str.ofString "{").cps.toList) (hz : tag.length ≤ 1000)
    (h : ∀ dn, Q .none (WS.led prog w { p with nl := nl, nsl := nsl, k := k, dn := dn, ds := [], ws := p.ws ++ [ampE p.ds] ++ [Str.ofString "</" ++ tag ++ Str.ofString ">"] } ++ ρ)) :
    T prog w C A (p.led prog w ++ ρ) (call (.ref 182) [.ref p.x, .str tag t]) Q E := by
  refine' T_callF (m := [(Str.ofString "tag", .str tag 0), (Str.ofString "self", .ref p.x)]) [(Str.ofString "self", .ref p.x), (Str.ofString "tag", .str tag t)] R.room (ho := ?ho) (hcd := ?hcd) (hbind := ?hb) (hloc := ?hloc) (hm := ?hm) (h := ?h) (hco := ?hco) (hgen := ?hgen) (hk := ?hk) (hcell := ?hcell)
  case ho => rw [hK]; exact lookup_KK rfl rfl
  case hcd => wtm_at "r_k"
  case hb => exact fun s X => kp_binds (K := KK w.params) (hK ▸ X) fun S => by kernel_rfl!
  case hloc => kernel_rfl
  case hm => exact rfl
  case hco => rfl
  case hgen => rfl
  case hk => rfl
  case hcell => decide
  intro L
  unfold WS.led wrF
  dsimp only [List.cons_append, List.nil_append]
  have hemp : (txts p.ds).isEmpty = false := by rcases hd with hd | hd <;> rw [hd] <;> rfl
  have hdl : (txts p.ds).length ≤ 1000000 := by rcases hd with hd | hd <;> rw [hd] <;> exact Nat.le_of_ble_eq_true rfl
  have e2 : (Str.empty ++ Str.ofString "</").length = 2 := rfl
  have e1 : (Str.ofString ">").length = 1 := rfl
  wtm_at "t_go"
  refine ifF (by rw [h0]; rfl) ?_
  wtm_at "t_go"
  refine ifT (by rw [hemp]; rfl) ?_
  wtm_at "t_go"
  refine T.perm (T_flush (p := p) (ρ := (L, PO.ns [(Str.ofString "tag", .str tag 0), (Str.ofString "self", .ref p.x)]) :: ρ) hK (R.down.down.down.down.deeper _) hs hd (by have := hp.ws; wtm_at "om") ?_) (perm1 (X := p.led prog w) (r := ρ))
  generalize hp1 : ({ p with ds := [], ws := p.ws ++ [ampE p.ds] } : WS) = p1
  have hx : p.x = p1.x := by rw [← hp1]
  rw [hx]
  have hp2 : p1.Ok := hp1 ▸ ⟨hp.n, hp.nl, hp.nsl, hp.k, Nat.zero_le _, by show (p.ws ++ [ampE p.ds]).length ≤ 900; rw [List.length_append]; exact hw⟩
  have h2 : ∀ dn, Q .none (WS.led prog w { p1 with nl := nl, nsl := nsl, k := k, dn := dn, ws := p1.ws ++ [Str.ofString "</" ++ tag ++ Str.ofString ">"] } ++ ρ) := by
    subst hp1; exact h
  have hnl2 : p1.nl = nl ++ [m₁] := by rw [← hp1]; exact hnl
  have hns2 : p1.nsl = nsl ++ [.ref m₂] := by rw [← hp1]; exact hns
  have hk2 : p1.k = k + 1 := by rw [← hp1]; exact hk
  clear hp1 hx hp hw hs h h0 hd hnl hns hk hemp hdl
  wtm_at "t_go"
  refine T.perm (σ' := (L, PO.ns [(Str.ofString "tag", .str tag 0), (Str.ofString "self", .ref p1.x)]) :: (p1.led prog w ++ ρ)) ?_ (perm1 (X := p1.led prog w) (r := ρ)).symm
  have hsub : (p1.led prog w).Sublist (p1.led prog w ++ ρ) := List.sublist_append_left _ _
  unfold WS.led wrF at hsub
  unfold WS.led wrF
  dsimp only [List.cons_append, List.nil_append] at hsub ⊢
  wtm_at "t_go"
  refine T_FStr (T_jp1 ?_)
  wtm_at "t_go"
  refine ⟨_, _, rfl, Nat.le_of_ble_eq_true rfl, ?_⟩
  refine T_jp1 (T_fv ?_)
  wtm_at "t_go"
  refine T_callTC ?_
  refine TC_qname hK (R.down.down.down.down.deeper _) (List.Sublist.cons _ hsub) hp2 htag hz fun T => ?_
  wtm_at "t_go"
  refine T_itemT (by wtm_at "r_mem") (by decide) (by decide) rfl ?_
  dsimp only [Vs, er]
  intro _
  refine T_fvS (by wtm_at "om") fun _ => ?_
  refine ⟨_, _, rfl, by wtm_at "om", ?_⟩
  refine T_jp1E ?_
  wtm_at "t_go"
  refine ⟨_, _, rfl, by rw [Str.length_append]; wtm_at "om", ?_⟩
  refine T_jp0E (by rw [Str.length_append, Str.length_append]; wtm_at "om") fun _ => ?_
  have hw1 : (txts p1.ws).length ≤ 1000000 := by unfold txts; rw [List.length_map]; have := hp2.ws; wtm_at "om"
  have hr1 : (List.replicate (k + 1) (Value.bool false)).length ≤ 1000000 := by rw [List.length_replicate]; have := hp2.k; wtm_at "om"
  have hde : (decl p1.dl nl).length ≤ 1000000 := by unfold decl; rw [List.length_cons, List.length_map]; have := hp2.nl; rw [hnl2, List.length_append] at this; wtm_at "om"
  have hnn : nsl.length ≤ 1000000 := by have := hp2.nsl; rw [hns2, List.length_append] at this; wtm_at "om"
  wtm_at "t_go"
  dsimp only [List.cons_append, List.nil_append]
  refine T_callAppB (by wtm_at "r_mem") (by wtm_at "r_upd") hw1 ?_
  rw [hnl2, hns2, hk2, decl_snoc, show List.replicate (k + 1 + 1) (Value.bool false) = List.replicate (k + 1) (Value.bool false) ++ [.bool false] from List.replicate_succ', List.map_append]
  wtm_at "t_go"
  dsimp only [List.cons_append, List.nil_append]
  refine T_pop (by wtm_at "r_upd") hr1 ?_
  wtm_at "t_go"
  dsimp only [Vs]
  wtm_at "t_go"
  dsimp only [List.cons_append, List.nil_append]
  refine T_lenL (by wtm_at "r_mem") hr1 fun _ => ?_
  wtm_at "t_go"
  dsimp only [List.cons_append, List.nil_append]
  refine T_pop (by wtm_at "r_upd") hde ?_
  dsimp only [Vs]
  wtm_at "t_go"
  dsimp only [List.cons_append, List.nil_append]
  refine T_pop (by wtm_at "r_upd") hnn ?_
  dsimp only [Vs]
  wtm_at "t_go"
  have e3 : Str.empty ++ Str.ofString "</" = Str.ofString "</" := by kernel_rfl
  refine ⟨_, ?_, h2 (((List.replicate (k + 1) (Value.bool false)).length : Int) == 1)⟩
  rw [e3]
  unfold WS.led
  dsimp only [List.cons_append]
  rw [txts_snoc]
  apply List.Sublist.cons
  apply List.Sublist.cons
  apply List.Sublist.cons_cons
  refine sub_cons (by kernel_rfl!) ?_
  iterate 9 apply List.Sublist.cons_cons
  rw [List.append_assoc]
  exact List.Sublist.append_left (List.sublist_append_right _ _) _
end
set_option maxHeartbeats 1000000
local macro_rules | `(tactic| wtm_at "t_ev") => `(tactic| ((with_reducible refine T_dict0 ?_); intro _))
theorem permF {α : Type} {pre X r : List α} : (pre ++ (X ++ r)).Perm (X ++ (pre ++ r)) := by
  rw [← List.append_assoc, ← List.append_assoc]
  exact List.perm_append_comm.append_right r
noncomputable def tagOf (word : Str) : Str := Str.ofString "_" ++ word ++ Str.ofString "_"
section
variable {prog : Program} {w : World} {C : Cx} {A : Around} {σ σ' ρ : Led} {E : Value → Led → Prop} {env : Env} {s : Shared} {p : WS} {tag u word : Str} {t : Tok} {ad nn x : Addr} {Q : Value → Led → Prop} {J : Nat → WS → Prop} {N n : Nat}
theorem T_fr (pre : Led) {α : Type} {X : Led} {t : Sem α} {Q : α → Led → Prop} (h : T prog w C A (X ++ (pre ++ ρ)) t Q E) : T prog w C A (pre ++ (X ++ ρ)) t Q E := h.perm permF
theorem T_unfr {pre : Led} {α : Type} {X : Led} {t : Sem α} {Q : α → Led → Prop} (h : T prog w C A (pre ++ (X ++ ρ)) t Q E) : T prog w C A (X ++ (pre ++ ρ)) t Q E := h.perm permF.symm
theorem T_wm {name : Str} {f : Addr} (pre : Led) {Q : Value × List Value → Led → Prop} {pl : Sem Bool} (hx : p.x = x) (hc : Meth C.K 199 name f) (hn : (wrF p.wa p.da p.et p.de p.ns p.pm p.ps p.seen p.dn p.ign).lookup name = none) (h : Q (.ref f, [.ref x]) (pre ++ (p.led prog w ++ ρ))) :
    T prog w C A (pre ++ (p.led prog w ++ ρ)) (getMethod (.ref x) name pl) Q E := by
  subst hx
  exact T_mth (List.mem_append_right _ (List.mem_append_left _ (.head _))) (List.mem_append_right _ (List.mem_append_left _ (.tail _ (.head _)))) hc hn h
theorem T_wm1 {a : Addr × PO} {name : Str} {f : Addr} {Q : Value × List Value → Led → Prop} {pl : Sem Bool} (hx : p.x = x) (hc : Meth C.K 199 name f) (hn : (wrF p.wa p.da p.et p.de p.ns p.pm p.ps p.seen p.dn p.ign).lookup name = none) (h : Q (.ref f, [.ref x]) (a :: (p.led prog w ++ ρ))) :
    T prog w C A (a :: (p.led prog w ++ ρ)) (getMethod (.ref x) name pl) Q E := T_wm [a] hx hc hn h
theorem T_fr2 {a b : Addr × PO} {α : Type} {X : Led} {t : Sem α} {Q : α → Led → Prop} (h : T prog w C A (X ++ (a :: b :: ρ)) t Q E) : T prog w C A (a :: b :: (X ++ ρ)) t Q E := T_fr [a, b] h
theorem T_unfr2 {a b : Addr × PO} {α : Type} {X : Led} {t : Sem α} {Q : α → Led → Prop} (h : T prog w C A (a :: b :: (X ++ ρ)) t Q E) : T prog w C A (X ++ (a :: b :: ρ)) t Q E := T_unfr (pre := [a, b]) h
theorem T_fr3 {a b c : Addr × PO} {α : Type} {X : Led} {t : Sem α} {Q : α → Led → Prop} (h : T prog w C A (X ++ (a :: b :: c :: ρ)) t Q E) : T prog w C A (a :: b :: c :: (X ++ ρ)) t Q E := T_fr [a, b, c] h
theorem T_unfr3 {a b c : Addr × PO} {α : Type} {X : Led} {t : Sem α} {Q : α → Led → Prop} (h : T prog w C A (a :: b :: c :: (X ++ ρ)) t Q E) : T prog w C A (X ++ (a :: b :: c :: ρ)) t Q E := T_unfr (pre := [a, b, c]) h
theorem T_wm3 {a b c : Addr × PO} {name : Str} {f : Addr} {Q : Value × List Value → Led → Prop} {pl : Sem Bool} (hx : p.x = x) (hc : Meth C.K 199 name f) (hn : (wrF p.wa p.da p.et p.de p.ns p.pm p.ps p.seen p.dn p.ign).lookup name = none) (h : Q (.ref f, [.ref x]) (a :: b :: c :: (p.led prog w ++ ρ))) :
    T prog w C A (a :: b :: c :: (p.led prog w ++ ρ)) (getMethod (.ref x) name pl) Q E := T_wm [a, b, c] hx hc hn h
theorem T_fr4 {a b c d : Addr × PO} {α : Type} {X : Led} {t : Sem α} {Q : α → Led → Prop} (h : T prog w C A (X ++ (a :: b :: c :: d :: ρ)) t Q E) : T prog w C A (a :: b :: c :: d :: (X ++ ρ)) t Q E := T_fr [a, b, c, d] h
theorem T_unfr4 {a b c d : Addr × PO} {α : Type} {X : Led} {t : Sem α} {Q : α → Led → Prop} (h : T prog w C A (a :: b :: c :: d :: (X ++ ρ)) t Q E) : T prog w C A (X ++ (a :: b :: c :: d :: ρ)) t Q E := T_unfr (pre := [a, b, c, d]) h
theorem T_wm4 {a b c d : Addr × PO} {name : Str} {f : Addr} {Q : Value × List Value → Led → Prop} {pl : Sem Bool} (hx : p.x = x) (hc : Meth C.K 199 name f) (hn : (wrF p.wa p.da p.et p.de p.ns p.pm p.ps p.seen p.dn p.ign).lookup name = none) (h : Q (.ref f, [.ref x]) (a :: b :: c :: d :: (p.led prog w ++ ρ))) :
    T prog w C A (a :: b :: c :: d :: (p.led prog w ++ ρ)) (getMethod (.ref x) name pl) Q E := T_wm [a, b, c, d] hx hc hn h
theorem Rm.le {m k : Nat} (r : Rm m A) (h : k ≤ m) : Rm k A := by
  obtain ⟨d, rfl⟩ := Nat.exists_eq_add_of_le h
  induction d with
  | zero => exact r
  | succ d ih => exact ih r.down (Nat.le_add_right _ _)
theorem T_unfrc4 {f a b c d : Addr × PO} {α : Type} {X : Led} {t : Sem α} {Q : α → Led → Prop} (h : T prog w C A (f :: a :: b :: c :: d :: (X ++ ρ)) t Q E) : T prog w C A (f :: (X ++ (a :: b :: c :: d :: ρ))) t Q E :=
  h.perm ((permF (pre := [a, b, c, d]) (X := X) (r := ρ)).symm.cons f)
theorem rep_cat {a b : Nat} {v : Value} : List.replicate a v ++ List.replicate b v = List.replicate (a + b) v := List.replicate_append_replicate
theorem ab_list : ((Str.ofString "ab").cps.toList.map fun c => Value.str ⟨#[c]⟩ 0) = [.str (Str.ofString "a") 0, .str (Str.ofString "b") 0] := by kernel_rfl
theorem tell_walkS (hK : C.K = KK w.params) (R : Rm (n + 16) A) (hx : ∀ i p, J i p → p.x = x) (hf : word.length < 3) (hN : N ≤ 100)
    (START : ∀ (A' : Around) (ρ' : Led) (Q' : Value → Led → Prop) p ad t, Rm 10 A' → J 0 p → (ad, dcp prog w []) ∈ ρ' → (∀ p', J 1 p' → Q' .none (p'.led prog w ++ ρ')) → T prog w C A' (p.led prog w ++ ρ') (call (.ref 169) [.ref x, .str (tagOf word) t, .ref ad]) Q' NoE)
    (DATA : ∀ i (A' : Around) (ρ' : Led) (Q' : Value → Led → Prop) p t, i < 2 → Rm 10 A' → J (2 * i + 1) p → (∀ p', J (2 * i + 2) p' → Q' .none (p'.led prog w ++ ρ')) → T prog w C A' (p.led prog w ++ ρ') (call (.ref 146) [.ref x, .str amp t]) Q' NoE)
    (TELL : ∀ i (A' : Around) (ρ' : Led) (Q' : Value → Led → Prop) p t, i < 2 → Rm (n + 15) A' → J (2 * i + 2) p → (∀ D p', J (2 * i + 3) p' → Q' (.ref D) ((D, .lst (List.replicate N .none)) :: (p'.led prog w ++ ρ'))) → T prog w C A' (p.led prog w ++ ρ') (call (.ref 241) [.ref x, .str (word ++ Str.ofString (if i = 0 then "a" else "b")) t]) Q' NoE)
    (END : ∀ (A' : Around) (ρ' : Led) (Q' : Value → Led → Prop) p t, Rm 10 A' → J 5 p → (∀ p', J 6 p' → Q' .none (p'.led prog w ++ ρ')) → T prog w C A' (p.led prog w ++ ρ') (call (.ref 182) [.ref x, .str (tagOf word) t]) Q' NoE)
    (h0 : J 0 p)
    (h : ∀ D p', J 6 p' → Q (.ref D) ((D, .lst (List.replicate (4 + 2 * N) .none)) :: (p'.led prog w ++ ρ))) :
    T prog w C A (p.led prog w ++ ρ) (call (.ref 241) [.ref x, .str word t]) Q E := by
  refine' T_callF (m := [(Str.ofString "word", .str word 0), (Str.ofString "writer", .ref x)]) [(Str.ofString "writer", .ref x), (Str.ofString "word", .str word t)] R.room (ho := ?ho) (hcd := ?hcd) (hbind := ?hb) (hloc := ?hloc) (hm := ?hm) (h := ?h) (hco := ?hco) (hgen := ?hgen) (hk := ?hk) (hcell := ?hcell)
  case ho => rw [hK]; exact lookup_KK rfl rfl
  case hcd => wtm_at "r_k"
  case hb => exact fun s X => kp_binds (K := KK w.params) (hK ▸ X) fun S => by kernel_rfl!
  case hloc => kernel_rfl
  case hm => exact rfl
  case hco => rfl
  case hgen => rfl
  case hk => rfl
  case hcell => decide
  intro L
  wtm_at "t_go"
  have us : (Str.ofString "_").length = 1 := rfl
  refine T_wm1 (hx _ _ h0) (m199start hK) (by kernel_rfl!) ?_
  dsimp only [List.cons_append, List.nil_append]
  wtm_at "t_go"
  refine T_addS (by wtm_at "om") fun _ => ?_
  wtm_at "t_go"
  refine T_addS (by rw [Str.length_append]; wtm_at "om") fun _ => ?_
  wtm_at "t_go"
  refine T_fr2 ?_
  refine START _ _ _ p _ _ ((R.deeper _).le (by wtm_at "om")) h0 (.head _) fun p1 j1 => ?_
  refine T_unfr2 ?_
  have hwl : word.length ≤ 1000000 := by wtm_at "om"
  wtm_at "t_go"
  refine ifT (by rw [decide_eq_true_eq]; wtm_at "om") ?_
  wtm_at "t_go"
  refine T_iterS (by decide +kernel) fun it => ?_
  rename_i D0 G _ _ _ tx
  refine T_forIt (itsS R.hand) (fun r τ =>
    (r = [.str (Str.ofString "a") 0, .str (Str.ofString "b") 0] ∧ ∃ p', J 1 p' ∧ τ = (G, .lst (List.replicate 1 .none)) :: (D0, dcp prog w []) :: (L, .ns [(Str.ofString "given", .ref G), (Str.ofString "word", .str word 0), (Str.ofString "writer", .ref x)]) :: (p'.led prog w ++ ρ)) ∨
    (r = [.str (Str.ofString "b") 0] ∧ ∃ p', J 3 p' ∧ τ = (G, .lst (List.replicate (2 + N) .none)) :: (D0, dcp prog w []) :: (L, .ns [(Str.ofString "letter", .str (Str.ofString "a") 0), (Str.ofString "given", .ref G), (Str.ofString "word", .str word 0), (Str.ofString "writer", .ref x)]) :: (p'.led prog w ++ ρ)) ∨
    (r = [] ∧ ∃ p', J 5 p' ∧ τ = (G, .lst (List.replicate (3 + 2 * N) .none)) :: (D0, dcp prog w []) :: (L, .ns [(Str.ofString "letter", .str (Str.ofString "b") 0), (Str.ofString "letter", .str (Str.ofString "a") 0), (Str.ofString "given", .ref G), (Str.ofString "word", .str word 0), (Str.ofString "writer", .ref x)]) :: (p'.led prog w ++ ρ))) ?_ (fun _ _ _ => trivial) ?_ ?_
  · exact .inl ⟨ab_list, p1, j1, rfl⟩
  · rintro v r τ i (⟨hr, p', j, rfl⟩ | ⟨hr, p', j, rfl⟩ | ⟨hr, _⟩)
    · obtain ⟨hv, rfl⟩ := List.cons.inj hr
      obtain ⟨tv, rfl⟩ := er_str hv
      wtm_at "t_go"
      refine T_wm4 (hx _ _ j) (m199data hK) (by kernel_rfl!) ?_
      wtm_at "t_go"
      refine T_fr4 ?_
      refine DATA 0 _ _ _ p' _ (by decide) ((R.deeper _).le (by wtm_at "om")) j fun p2 j2 => ?_
      refine T_unfr4 ?_
      have hl1 : (List.replicate 1 Value.none).length ≤ 1000000 := by rw [List.length_replicate]; wtm_at "om"
      wtm_at "t_go"
      refine T_addS (by show _ + 1 ≤ _; wtm_at "om") fun _ => ?_
      wtm_at "t_go"
      refine T_fr4 ?_
      refine TELL 0 _ _ _ p2 _ (by decide) (R.deeper _) j2 fun D p3 j3 => ?_
      refine T_unfrc4 ?_
      wtm_at "t_go"
      dsimp only [List.cons_append, List.nil_append]
      refine T_extend (by wtm_at "r_mem") (by wtm_at "r_upd") (by rw [List.length_append, List.length_replicate, List.length_replicate]; show _ + 1 + _ ≤ _; wtm_at "om") ?_
      wtm_at "t_go"
      refine ⟨_, .inr (.inl ⟨rfl, p3, j3, rfl⟩), ?_⟩
      apply List.Sublist.cons
      refine List.Sublist.cons_cons _ (sub_cons ?_ (List.Sublist.refl _))
      show (G, PO.lst (List.replicate (2 + N) Value.none)) = (G, PO.lst (List.replicate 1 Value.none ++ List.replicate 1 Value.none ++ List.replicate N Value.none))
      rw [rep_cat, rep_cat]
    · obtain ⟨hv, rfl⟩ := List.cons.inj hr
      obtain ⟨tv, rfl⟩ := er_str hv
      wtm_at "t_go"
      refine T_wm4 (hx _ _ j) (m199data hK) (by kernel_rfl!) ?_
      wtm_at "t_go"
      refine T_fr4 ?_
      refine DATA 1 _ _ _ p' _ (by decide) ((R.deeper _).le (by wtm_at "om")) j fun p2 j2 => ?_
      refine T_unfr4 ?_
      have hl1 : (List.replicate (2 + N) Value.none).length ≤ 1000000 := by rw [List.length_replicate]; wtm_at "om"
      wtm_at "t_go"
      refine T_addS (by show _ + 1 ≤ _; wtm_at "om") fun _ => ?_
      wtm_at "t_go"
      refine T_fr4 ?_
      refine TELL 1 _ _ _ p2 _ (by decide) (R.deeper _) j2 fun D p3 j3 => ?_
      refine T_unfrc4 ?_
      wtm_at "t_go"
      dsimp only [List.cons_append, List.nil_append]
      refine T_extend (by wtm_at "r_mem") (by wtm_at "r_upd") (by rw [List.length_append, List.length_replicate, List.length_replicate]; show _ + 1 + _ ≤ _; wtm_at "om") ?_
      wtm_at "t_go"
      refine ⟨_, .inr (.inr ⟨rfl, p3, j3, rfl⟩), ?_⟩
      apply List.Sublist.cons
      refine List.Sublist.cons_cons _ (sub_cons ?_ (List.Sublist.refl _))
      show (G, PO.lst (List.replicate (3 + 2 * N) Value.none)) = (G, PO.lst (List.replicate (2 + N) Value.none ++ List.replicate 1 Value.none ++ List.replicate N Value.none))
      rw [rep_cat, rep_cat]
      rw [show 2 + N + 1 + N = 3 + 2 * N by wtm_at "om"]
    · cases hr
  · rintro τ (⟨hr, _⟩ | ⟨hr, _⟩ | ⟨_, p', j, rfl⟩)
    · cases hr
    · cases hr
    · wtm_at "t_go"
      refine T_wm3 (hx _ _ j) (m199end hK) (by kernel_rfl!) ?_
      wtm_at "t_go"
      refine T_addS (by wtm_at "om") fun _ => ?_
      wtm_at "t_go"
      refine T_addS (by rw [Str.length_append]; wtm_at "om") fun _ => ?_
      wtm_at "t_go"
      refine T_fr3 ?_
      refine END _ _ _ p' _ ((R.deeper _).le (by wtm_at "om")) j fun p6 j6 => ?_
      refine T_unfr3 ?_
      wtm_at "t_go"
      refine T_addL (.tail _ (.head _)) (.head _) (by rw [List.length_replicate]; show _ + 1 ≤ _; wtm_at "om") fun D => ?_
      wtm_at "t_go"
      refine ⟨_, ?_, h D p6 j6⟩
      refine sub_cons ?_ (by iterate 4 apply List.Sublist.cons
                             exact List.Sublist.refl _)
      show (D, PO.lst (List.replicate (4 + 2 * N) Value.none)) = (D, PO.lst (List.replicate (3 + 2 * N) Value.none ++ List.replicate 1 Value.none))
      rw [rep_cat, show 3 + 2 * N + 1 = 4 + 2 * N by wtm_at "om"]
end
set_option maxHeartbeats 1000000
section
variable {prog : Program} {w : World} {C : Cx} {A : Around} {σ σ' ρ : Led} {E : Value → Led → Prop} {env : Env} {s : Shared} {p : WS} {tag u word : Str} {t : Tok} {ad nn x : Addr} {Q : Value → Led → Prop} {J : Nat → WS → Prop} {N n : Nat}
theorem tell_walk0 (hK : C.K = KK w.params) (R : Rm (n + 16) A) (hx : ∀ i p, J i p → p.x = x) (hf : word.length = 3)
    (START : ∀ (A' : Around) (ρ' : Led) (Q' : Value → Led → Prop) p ad t, Rm 10 A' → J 0 p → (ad, dcp prog w []) ∈ ρ' → (∀ p', J 1 p' → Q' .none (p'.led prog w ++ ρ')) → T prog w C A' (p.led prog w ++ ρ') (call (.ref 169) [.ref x, .str (tagOf word) t, .ref ad]) Q' NoE)
    (END : ∀ (A' : Around) (ρ' : Led) (Q' : Value → Led → Prop) p t, Rm 10 A' → J 1 p → (∀ p', J 6 p' → Q' .none (p'.led prog w ++ ρ')) → T prog w C A' (p.led prog w ++ ρ') (call (.ref 182) [.ref x, .str (tagOf word) t]) Q' NoE)
    (h0 : J 0 p)
    (h : ∀ D p', J 6 p' → Q (.ref D) ((D, .lst (List.replicate 2 .none)) :: (p'.led prog w ++ ρ))) :
    T prog w C A (p.led prog w ++ ρ) (call (.ref 241) [.ref x, .str word t]) Q E := by
  refine' T_callF (m := [(Str.ofString "word", .str word 0), (Str.ofString "writer", .ref x)]) [(Str.ofString "writer", .ref x), (Str.ofString "word", .str word t)] R.room (ho := ?ho) (hcd := ?hcd) (hbind := ?hb) (hloc := ?hloc) (hm := ?hm) (h := ?h) (hco := ?hco) (hgen := ?hgen) (hk := ?hk) (hcell := ?hcell)
  case ho => rw [hK]; exact lookup_KK rfl rfl
  case hcd => wtm_at "r_k"
  case hb => exact fun s X => kp_binds (K := KK w.params) (hK ▸ X) fun S => by kernel_rfl!
  case hloc => kernel_rfl
  case hm => exact rfl
  case hco => rfl
  case hgen => rfl
  case hk => rfl
  case hcell => decide
  intro L
  wtm_at "t_go"
  have us : (Str.ofString "_").length = 1 := rfl
  refine T_wm1 (hx _ _ h0) (m199start hK) (by kernel_rfl!) ?_
  dsimp only [List.cons_append, List.nil_append]
  wtm_at "t_go"
  refine T_addS (by wtm_at "om") fun _ => ?_
  wtm_at "t_go"
  refine T_addS (by rw [Str.length_append]; wtm_at "om") fun _ => ?_
  wtm_at "t_go"
  refine T_fr2 ?_
  refine START _ _ _ p _ _ ((R.deeper _).le (by wtm_at "om")) h0 (.head _) fun p1 j1 => ?_
  refine T_unfr2 ?_
  have hwl : word.length ≤ 1000000 := by wtm_at "om"
  wtm_at "t_go"
  refine ifF (by rw [decide_eq_false_iff_not]; wtm_at "om") ?_
  wtm_at "t_go"
  refine T_iterS (by decide +kernel) fun it => ?_
  rename_i D0 G _ _ _ tx
  refine T_forIt (itsS R.hand) (fun r τ => r = [] ∧ ∃ p', J 1 p' ∧ τ = (G, .lst (List.replicate 1 .none)) :: (D0, dcp prog w []) :: (L, .ns [(Str.ofString "given", .ref G), (Str.ofString "word", .str word 0), (Str.ofString "writer", .ref x)]) :: (p'.led prog w ++ ρ)) ?_ (fun _ _ _ => trivial) ?_ ?_
  · exact ⟨by kernel_rfl!, p1, j1, rfl⟩
  · rintro v r τ i ⟨hr, _⟩
    cases hr
  · rintro τ ⟨_, p', j, rfl⟩
    wtm_at "t_go"
    refine T_wm3 (hx _ _ j) (m199end hK) (by kernel_rfl!) ?_
    wtm_at "t_go"
    refine T_addS (by wtm_at "om") fun _ => ?_
    wtm_at "t_go"
    refine T_addS (by rw [Str.length_append]; wtm_at "om") fun _ => ?_
    wtm_at "t_go"
    refine T_fr3 ?_
    refine END _ _ _ p' _ ((R.deeper _).le (by wtm_at "om")) j fun p6 j6 => ?_
    refine T_unfr3 ?_
    wtm_at "t_go"
    refine T_addL (.tail _ (.head _)) (.head _) (by exact Nat.le_of_ble_eq_true rfl) fun D => ?_
    wtm_at "t_go"
    refine ⟨_, ?_, h D p6 j6⟩
    refine sub_cons ?_ (by iterate 4 apply List.Sublist.cons
                           exact List.Sublist.refl _)
    show (D, PO.lst (List.replicate 2 Value.none)) = (D, PO.lst (List.replicate 1 Value.none ++ List.replicate 1 Value.none))
    rfl
end
set_option maxHeartbeats 1000000
noncomputable def flushP (ds ws : List Str) : List Str := if ds.isEmpty then ws else ws ++ [ampE ds]
noncomputable def openP (word : Str) (ds ws : List Str) : List Str := flushP ds ws ++ [Str.ofString "<" ++ tagOf word, Str.ofString ">"]
noncomputable def closeP (word : Str) (ds ws : List Str) : List Str := flushP ds ws ++ [Str.ofString "</" ++ tagOf word ++ Str.ofString ">"]
noncomputable def wa (word : Str) : Str := word ++ Str.ofString "a"
noncomputable def wb (word : Str) : Str := word ++ Str.ofString "b"
noncomputable def tellP (P : Str → Bool) : Nat → Str → List Str → List Str → List Str × List Str
  | 0, word, ds, ws => if P (tagOf word) = true then (ds, ws) else ([], closeP word [] (openP word ds ws))
  | f + 1, word, ds, ws => if P (tagOf word) = true then (ds, ws) else
      let a := tellP P f (wa word) [amp] (openP word ds ws)
      let b := tellP P f (wb word) (a.1 ++ [amp]) a.2
      ([], closeP word b.1 b.2)
noncomputable def bnd : Nat → Nat | 0 => 5 | f + 1 => 5 + 2 * bnd f
noncomputable def cnt : Nat → Nat | 0 => 2 | f + 1 => 4 + 2 * cnt f
noncomputable def DsOk (ds : List Str) : Prop := ds = [] ∨ ds = [amp] ∨ ds = [amp, amp]
noncomputable def goodW (w : Str) : Prop := (Txt.slice (tagOf w) none (some 1)).cps.toList ≠ (Str.ofString "{").cps.toList
noncomputable def subW : Nat → Str → List Str | 0, w => [w] | f + 1, w => w :: (subW f (wa w) ++ subW f (wb w))
theorem flushP_len {ds ws : List Str} : (flushP ds ws).length ≤ ws.length + 1 := by unfold flushP; split <;> simp
theorem tellP_ds {P : Str → Bool} {f : Nat} {word : Str} {ds ws : List Str} : (tellP P f word ds ws).1 = ds ∨ (tellP P f word ds ws).1 = [] := by
  cases f <;> unfold tellP <;> split <;> simp
theorem tellP_len {P : Str → Bool} {f : Nat} : ∀ {word : Str} {ds ws : List Str}, (tellP P f word ds ws).2.length ≤ ws.length + bnd f := by
  induction f with
  | zero =>
    intro word ds ws
    unfold tellP bnd
    split
    · simp
    · have h1 := @flushP_len ds ws
      have h2 := @flushP_len [] (openP word ds ws)
      unfold closeP openP at *
      simp only [List.length_append, List.length_cons, List.length_nil] at *
      wtm_at "om"
  | succ f ih =>
    intro word ds ws
    unfold tellP bnd
    split
    · simp
    · have h1 := @flushP_len ds ws
      have h3 := @ih (wa word) [amp] (openP word ds ws)
      have h4 := @ih (wb word) ((tellP P f (wa word) [amp] (openP word ds ws)).1 ++ [amp]) (tellP P f (wa word) [amp] (openP word ds ws)).2
      have h2 := @flushP_len (tellP P f (wb word) ((tellP P f (wa word) [amp] (openP word ds ws)).1 ++ [amp]) (tellP P f (wa word) [amp] (openP word ds ws)).2).1 (tellP P f (wb word) ((tellP P f (wa word) [amp] (openP word ds ws)).1 ++ [amp]) (tellP P f (wa word) [amp] (openP word ds ws)).2).2
      unfold closeP
      have h5 : (openP word ds ws).length = (flushP ds ws).length + 2 := by unfold openP; simp
      simp only [List.length_append, List.length_cons, List.length_nil] at *
      wtm_at "om"
section
variable {prog : Program} {w : World} {C : Cx} {A : Around} {ρ : Led} {E : Value → Led → Prop} {p : WS} {word : Str} {t : Tok} {Q : Value → Led → Prop} {f : Nat}
theorem WS.Ok.chg {p : WS} (h : p.Ok) {seen dn : Bool} {ign : Int} : (WS.Ok { p with seen := seen, dn := dn, ign := ign }) := ⟨h.n, h.nl, h.nsl, h.k, h.ds, h.ws⟩
structure PreW (f : Nat) (p : WS) : Prop where
  ok : p.Ok
  ign : 0 ≤ p.ign
  nl : p.nl.length + f < 100
  nsl : p.nsl.length + f < 100
  k : p.k + f < 100
  ws : p.ws.length + bnd f < 899
  ds : DsOk p.ds
  seen : p.ds ≠ [] → p.seen = true
noncomputable def Told (prog : Program) (w : World) (C : Cx) (f : Nat) : Prop := ∀ (A : Around) (ρ : Led) (E : Value → Led → Prop) (p : WS) (word : Str) (t : Tok) (Q : Value → Led → Prop), Rm (f + 16) A → PreW f p → word.length + f = 3 → (∀ v ∈ subW f word, goodW v) →
    (∀ D seen dn, (p.seen = true → seen = true) → Q (.ref D) ((D, .lst (List.replicate (cnt f) .none)) :: (WS.led prog w { p with ds := (if p.ign = 0 then tellP p.P f word p.ds p.ws else (p.ds, p.ws)).1, ws := (if p.ign = 0 then tellP p.P f word p.ds p.ws else (p.ds, p.ws)).2, seen := seen, dn := dn } ++ ρ))) →
    T prog w C A (p.led prog w ++ ρ) (call (.ref 241) [.ref p.x, .str word t]) Q E
theorem subW_self {w : Str} : w ∈ subW f w := by cases f <;> exact .head _
theorem tag_len (h : word.length ≤ 3) : (tagOf word).length ≤ 1000 := by
  unfold tagOf
  have : (Str.ofString "_").length = 1 := rfl
  rw [Str.length_append, Str.length_append]
  wtm_at "om"
noncomputable def igJ (p : WS) (i : Nat) (q : WS) : Prop := ∃ seen dn, (p.seen = true → seen = true) ∧ q = { p with ign := if i = 0 ∨ i = 6 then p.ign else p.ign + 1, seen := seen, dn := dn }
theorem told_ign (hK : C.K = KK w.params) (ih : ∀ g, f = g + 1 → Told prog w C g) (R : Rm (f + 16) A) (hp : PreW f p) (hw : word.length + f = 3) (hg : ∀ v ∈ subW f word, goodW v) (hi : p.ign ≠ 0 ∨ p.P (tagOf word) = true)
    (h : ∀ D seen dn, (p.seen = true → seen = true) → Q (.ref D) ((D, .lst (List.replicate (cnt f) .none)) :: (WS.led prog w { p with seen := seen, dn := dn } ++ ρ))) :
    T prog w C A (p.led prog w ++ ρ) (call (.ref 241) [.ref p.x, .str word t]) Q E := by
  have h0 : igJ p 0 p := ⟨p.seen, p.dn, id, rfl⟩
  have hx : ∀ i q, igJ p i q → q.x = p.x := by rintro i q ⟨_, _, _, rfl⟩; rfl
  have hne : p.ign + 1 ≠ 0 := by have := hp.ign; wtm_at "om"
  have START : ∀ (A' : Around) (ρ' : Led) (Q' : Value → Led → Prop) q ad t, Rm 10 A' → igJ p 0 q → (ad, dcp prog w []) ∈ ρ' → (∀ p', igJ p 1 p' → Q' .none (p'.led prog w ++ ρ')) → T prog w C A' (q.led prog w ++ ρ') (call (.ref 169) [.ref p.x, .str (tagOf word) t, .ref ad]) Q' NoE := by
    rintro A' ρ' Q' q ad t R' ⟨seen, dn, hs, rfl⟩ _ hQ
    exact T_startI (p := { p with ign := p.ign, seen := seen, dn := dn }) hK (R'.le (by decide)) hp.ok.chg hi (hQ _ ⟨seen, dn, hs, rfl⟩)
  have END : ∀ j (A' : Around) (ρ' : Led) (Q' : Value → Led → Prop) q t, (j = 1 ∨ j = 5) → Rm 10 A' → igJ p j q → (∀ p', igJ p 6 p' → Q' .none (p'.led prog w ++ ρ')) → T prog w C A' (q.led prog w ++ ρ') (call (.ref 182) [.ref p.x, .str (tagOf word) t]) Q' NoE := by
    rintro j A' ρ' Q' q t hj R' ⟨seen, dn, hs, rfl⟩ hQ
    have ej : (if j = 0 ∨ j = 6 then p.ign else p.ign + 1) = p.ign + 1 := by rcases hj with rfl | rfl <;> rfl
    rw [ej]
    refine T_endI (p := { p with ign := p.ign + 1, seen := seen, dn := dn }) hK (R'.le (by decide)) hne ?_
    have := hQ { p with ign := p.ign, seen := seen, dn := dn } ⟨seen, dn, hs, rfl⟩
    dsimp only
    rw [Int.add_sub_cancel]
    exact this
  have H : ∀ D p', igJ p 6 p' → Q (.ref D) ((D, .lst (List.replicate (cnt f) .none)) :: (p'.led prog w ++ ρ)) := by
    rintro D p' ⟨seen, dn, hs, rfl⟩
    exact h D seen dn hs
  cases f with
  | zero => exact tell_walk0 (n := 0) (J := igJ p) hK R hx (by wtm_at "om") START (fun A' ρ' Q' q t R' j hQ => END 1 A' ρ' Q' q t (.inl rfl) R' j hQ) h0 H
  | succ f =>
    have hq : ∀ i seen dn, (p.seen = true → seen = true) → i = 1 ∨ i = 2 → PreW f { p with ign := p.ign + 1, seen := seen, dn := dn } := fun i seen dn hs _ =>
      ⟨hp.ok.chg, by have := hp.ign; show 0 ≤ p.ign + 1; wtm_at "om", by have := hp.nl; show p.nl.length + f < 100; wtm_at "om", by have := hp.nsl; show p.nsl.length + f < 100; wtm_at "om", by have := hp.k; show p.k + f < 100; wtm_at "om",
        by have := hp.ws; show p.ws.length + bnd f < 899; unfold bnd at this; wtm_at "om", hp.ds, fun x => hs (hp.seen x)⟩
    have ej : ∀ i, i ≠ 0 → i ≠ 6 → (if i = 0 ∨ i = 6 then p.ign else p.ign + 1) = p.ign + 1 := fun i h1 h2 => if_neg (by wtm_at "om")
    refine tell_walkS (n := f + 1) (N := cnt f) (J := igJ p) hK R hx (by wtm_at "om") ?_ START ?_ ?_ (fun A' ρ' Q' q t R' j hQ => END 5 A' ρ' Q' q t (.inr rfl) R' j hQ) h0 (by
      intro D p' j
      exact H D p' j)
    · have : f ≤ 2 := by wtm_at "om"
      rcases f with _ | _ | _ | f
      · decide
      · decide
      · decide
      · wtm_at "om"
    · rintro i A' ρ' Q' q t hi2 R' ⟨seen, dn, hs, rfl⟩ hQ
      rw [ej _ (by wtm_at "om") (by wtm_at "om")]
      refine T_data (p := { p with ign := p.ign + 1, seen := seen, dn := dn }) hK (R'.le (by decide)) (Nat.le_trans hp.ok.ds (by decide)) ?_
      dsimp only
      rw [if_neg hne]
      exact hQ _ ⟨seen, dn, hs, by rw [ej _ (by wtm_at "om") (by wtm_at "om")]⟩
    · rintro i A' ρ' Q' q t hi2 R' ⟨seen, dn, hs, rfl⟩ hQ
      rw [ej _ (by wtm_at "om") (by wtm_at "om")]
      have hl : (word ++ Str.ofString (if i = 0 then "a" else "b")).length + f = 3 := by
        rw [Str.length_append]
        have : (Str.ofString (if i = 0 then "a" else "b")).length = 1 := by split <;> rfl
        wtm_at "om"
      refine ih f rfl A' ρ' NoE { p with ign := p.ign + 1, seen := seen, dn := dn } _ t Q' (R'.le (by wtm_at "om")) (hq 1 seen dn hs (.inl rfl)) hl ?_ ?_
      · intro v hv
        refine hg v (.tail _ ?_)
        have : i = 0 ∨ i = 1 := by wtm_at "om"
        rcases this with rfl | rfl
        · exact List.mem_append_left _ hv
        · exact List.mem_append_right _ hv
      · intro D seen' dn' hs'
        dsimp only
        rw [if_neg hne]
        exact hQ D _ ⟨seen', dn', fun x => hs' (hs x), by rw [ej _ (by wtm_at "om") (by wtm_at "om")]⟩
end
set_option maxHeartbeats 1000000
section
variable {prog : Program} {w : World} {C : Cx} {A : Around} {ρ : Led} {E : Value → Led → Prop} {p q : WS} {word : Str} {t : Tok} {Q : Value → Led → Prop} {f : Nat} {ds ws : List Str}
noncomputable def st (p : WS) (ds ws : List Str) (q : WS) : Prop := ∃ m₁ m₂ dn, q = { p with ds := ds, ws := ws, nl := p.nl ++ [m₁], nsl := p.nsl ++ [.ref m₂], k := p.k + 1, seen := true, dn := dn }
noncomputable def en (p : WS) (word : Str) (ds ws : List Str) (q : WS) : Prop := ∃ dn, q = { p with ds := [], ws := closeP word ds ws, seen := true, dn := dn }
theorem live_start (hK : C.K = KK w.params) (hL : lam03 ∈ C.lams) (R : Rm 10 A) (hp : PreW f p) (hi : p.ign = 0) (hP : p.P (tagOf word) = false) (hg : goodW word) (hz : word.length ≤ 3) {ad : Addr} (had : (ad, dcp prog w []) ∈ ρ)
    (h : ∀ q, st p [] (openP word p.ds p.ws) q → Q .none (q.led prog w ++ ρ)) : T prog w C A (p.led prog w ++ ρ) (call (.ref 169) [.ref p.x, .str (tagOf word) t, .ref ad]) Q E := by
  rcases hp.ds with hd | hd
  · refine T_startB hK hL (R.le (by decide)) hp.ok hi hP hd had (by have := hp.nl; wtm_at "om") hg (tag_len hz) fun m₁ m₂ => ?_
    refine h _ ⟨m₁, m₂, p.dn, ?_⟩
    unfold openP flushP
    rw [hd]
    rfl
  · have hne : p.ds ≠ [] := by rcases hd with hd | hd <;> rw [hd] <;> exact List.cons_ne_nil _ _
    refine T_startF hK hL (R.le (by decide)) hp.ok hi hP hd (hp.seen hne) had (by have := hp.nl; wtm_at "om") (by have := hp.ws; have : 5 ≤ bnd f := by { cases f <;> unfold bnd <;> wtm_at "om" }; wtm_at "om") hg (tag_len hz) fun m₁ m₂ => ?_
    refine h _ ⟨m₁, m₂, p.dn, ?_⟩
    have : p.ds.isEmpty = false := by rcases hd with hd | hd <;> rw [hd] <;> rfl
    unfold openP flushP
    rw [this]
    rfl
theorem live_end (hK : C.K = KK w.params) (R : Rm 10 A) (hp : p.Ok) (hn : p.nl.length < 100) (hns : p.nsl.length < 100) (hk : p.k < 100) (hws : ws.length < 900) (hds : DsOk ds) (hi : p.ign = 0) (hg : goodW word) (hz : word.length ≤ 3)
    (hq : st p ds ws q) (h : ∀ q, en p word ds ws q → Q .none (q.led prog w ++ ρ)) : T prog w C A (q.led prog w ++ ρ) (call (.ref 182) [.ref p.x, .str (tagOf word) t]) Q E := by
  obtain ⟨m₁, m₂, dn, rfl⟩ := hq
  have ok : WS.Ok { p with ds := ds, ws := ws, nl := p.nl ++ [m₁], nsl := p.nsl ++ [.ref m₂], k := p.k + 1, seen := true, dn := dn } := by
    refine ⟨hp.n, ?_, ?_, hk, ?_, Nat.le_of_lt hws⟩
    · show (p.nl ++ [m₁]).length ≤ 100
      rw [List.length_append]; exact hn
    · show (p.nsl ++ [Value.ref m₂]).length ≤ 100
      rw [List.length_append]; exact hns
    · rcases hds with h | h | h <;> (show ds.length ≤ 100; rw [h]; decide)
  rcases hds with hd | hd
  · refine T_endB (p := { p with ds := ds, ws := ws, nl := p.nl ++ [m₁], nsl := p.nsl ++ [.ref m₂], k := p.k + 1, seen := true, dn := dn }) hK (R.le (by decide)) ok hi hd rfl rfl rfl hg (tag_len hz) fun dn' => ?_
    have := h _ ⟨dn', rfl⟩
    unfold closeP flushP at this
    subst hd
    exact this
  · refine T_endF (p := { p with ds := ds, ws := ws, nl := p.nl ++ [m₁], nsl := p.nsl ++ [.ref m₂], k := p.k + 1, seen := true, dn := dn }) hK (R.le (by decide)) ok hi hd rfl hws rfl rfl rfl hg (tag_len hz) fun dn' => ?_
    have := h _ ⟨dn', rfl⟩
    have e : ds.isEmpty = false := by rcases hd with hd | hd <;> rw [hd] <;> rfl
    unfold closeP flushP at this
    rw [e] at this
    exact this
end
set_option maxHeartbeats 1000000
section
variable {prog : Program} {w : World} {C : Cx} {A : Around} {ρ : Led} {E : Value → Led → Prop} {p q : WS} {word : Str} {t : Tok} {Q : Value → Led → Prop} {f : Nat} {ds ws : List Str}
theorem tellP_succ {P : Str → Bool} : tellP P (f + 1) word ds ws = if P (tagOf word) = true then (ds, ws) else ([], closeP word (tellP P f (wb word) ((tellP P f (wa word) [amp] (openP word ds ws)).1 ++ [amp]) (tellP P f (wa word) [amp] (openP word ds ws)).2).1 (tellP P f (wb word) ((tellP P f (wa word) [amp] (openP word ds ws)).1 ++ [amp]) (tellP P f (wa word) [amp] (openP word ds ws)).2).2) := rfl
theorem openP_len : (openP word ds ws).length ≤ ws.length + 3 := by
  have h1 := @flushP_len ds ws
  unfold openP
  simp only [List.length_append, List.length_cons, List.length_nil]
  wtm_at "om"
theorem dsok_of {d : List Str} (h : d = [amp] ∨ d = []) : DsOk (d ++ [amp]) := by
  rcases h with rfl | rfl
  · exact .inr (.inr rfl)
  · exact .inr (.inl rfl)
theorem dsok_tell {P : Str → Bool} {d : List Str} (h : DsOk d) : DsOk (tellP P f word d ws).1 := by
  rcases @tellP_ds P f word d ws with e | e <;> rw [e]
  · exact h
  · exact .inl rfl
theorem st_data (hK : C.K = KK w.params) (R : Rm 10 A) (hi : p.ign = 0) (hd : ds.length ≤ 1000) (hq : st p ds ws q) (h : ∀ q, st p (ds ++ [amp]) ws q → Q .none (q.led prog w ++ ρ)) :
    T prog w C A (q.led prog w ++ ρ) (call (.ref 146) [.ref p.x, .str amp t]) Q E := by
  obtain ⟨m₁, m₂, dn, rfl⟩ := hq
  refine T_data (p := { p with ds := ds, ws := ws, nl := p.nl ++ [m₁], nsl := p.nsl ++ [.ref m₂], k := p.k + 1, seen := true, dn := dn }) hK (R.le (by decide)) hd ?_
  dsimp only
  rw [if_pos hi]
  exact h _ ⟨m₁, m₂, dn, rfl⟩
theorem st_tell (ih : Told prog w C f) (R : Rm (f + 16) A) (hp : PreW (f + 1) p) (hi : p.ign = 0) (hl : word.length + f = 3) (hg : ∀ v ∈ subW f word, goodW v) (hd : DsOk ds) (hw : ws.length + bnd f < 899) (hq : st p ds ws q)
    (h : ∀ D q, st p (tellP p.P f word ds ws).1 (tellP p.P f word ds ws).2 q → Q (.ref D) ((D, .lst (List.replicate (cnt f) .none)) :: (q.led prog w ++ ρ))) :
    T prog w C A (q.led prog w ++ ρ) (call (.ref 241) [.ref p.x, .str word t]) Q E := by
  obtain ⟨m₁, m₂, dn, rfl⟩ := hq
  have h1 := hp.nl
  have h2 := hp.nsl
  have h3 := hp.k
  refine ih A ρ E { p with ds := ds, ws := ws, nl := p.nl ++ [m₁], nsl := p.nsl ++ [.ref m₂], k := p.k + 1, seen := true, dn := dn } word t Q R ⟨⟨hp.ok.n, ?_, ?_, ?_, ?_, ?_⟩, hp.ign, ?_, ?_, ?_, hw, hd, fun _ => rfl⟩ hl hg fun D seen dn' hs => ?_
  · show (p.nl ++ [m₁]).length ≤ 100
    rw [List.length_append]; show _ + 1 ≤ _; wtm_at "om"
  · show (p.nsl ++ [Value.ref m₂]).length ≤ 100
    rw [List.length_append]; show _ + 1 ≤ _; wtm_at "om"
  · show p.k + 1 ≤ 100
    wtm_at "om"
  · rcases hd with h | h | h <;> (show ds.length ≤ 100; rw [h]; decide)
  · show ws.length ≤ 900
    wtm_at "om"
  · show (p.nl ++ [m₁]).length + f < 100
    rw [List.length_append]; show _ + 1 + _ < _; wtm_at "om"
  · show (p.nsl ++ [Value.ref m₂]).length + f < 100
    rw [List.length_append]; show _ + 1 + _ < _; wtm_at "om"
  · show p.k + 1 + f < 100
    wtm_at "om"
  · have hs := hs rfl
    subst hs
    dsimp only
    rw [if_pos hi]
    exact h D _ ⟨m₁, m₂, dn', rfl⟩
theorem told_live (hK : C.K = KK w.params) (hL : lam03 ∈ C.lams) (ih : ∀ g, f = g + 1 → Told prog w C g) (R : Rm (f + 16) A) (hp : PreW f p) (hw : word.length + f = 3) (hg : ∀ v ∈ subW f word, goodW v) (hi : p.ign = 0) (hP : p.P (tagOf word) = false)
    (h : ∀ D q, (∃ dn, q = { p with ds := (tellP p.P f word p.ds p.ws).1, ws := (tellP p.P f word p.ds p.ws).2, seen := true, dn := dn }) → Q (.ref D) ((D, .lst (List.replicate (cnt f) .none)) :: (q.led prog w ++ ρ))) :
    T prog w C A (p.led prog w ++ ρ) (call (.ref 241) [.ref p.x, .str word t]) Q E := by
  have hgw := hg word subW_self
  have hol := @openP_len word p.ds p.ws
  cases f with
  | zero =>
    have e : tellP p.P 0 word p.ds p.ws = ([], closeP word [] (openP word p.ds p.ws)) := by unfold tellP; rw [hP]; rfl
    rw [e] at h
    have hwl := hp.ws
    unfold bnd at hwl
    let J : Nat → WS → Prop := fun i q => match i with | 0 => q = p | 1 => st p [] (openP word p.ds p.ws) q | _ => en p word [] (openP word p.ds p.ws) q
    refine tell_walk0 (n := 0) (J := J) hK R ?_ (by wtm_at "om") ?_ ?_ rfl fun D q j => h D q ?_
    · intro i q j
      match i, j with
      | 0, j => exact congrArg WS.x j
      | 1, ⟨_, _, _, e⟩ => rw [e]
      | (n + 2), ⟨_, e⟩ => rw [e]
    · intro A' ρ' Q' q ad t R' j had hQ
      rw [show q = p from j]
      exact live_start hK hL R' hp hi hP hgw (by wtm_at "om") had hQ
    · rintro A' ρ' Q' q t R' j hQ
      exact live_end hK R' hp.ok (by have := hp.nl; wtm_at "om") (by have := hp.nsl; wtm_at "om") (by have := hp.k; wtm_at "om") (by wtm_at "om") (.inl rfl) hi hgw (by wtm_at "om") j hQ
    · exact j
  | succ f =>
    have e : tellP p.P (f + 1) word p.ds p.ws = ([], closeP word (tellP p.P f (wb word) ((tellP p.P f (wa word) [amp] (openP word p.ds p.ws)).1 ++ [amp]) (tellP p.P f (wa word) [amp] (openP word p.ds p.ws)).2).1
        (tellP p.P f (wb word) ((tellP p.P f (wa word) [amp] (openP word p.ds p.ws)).1 ++ [amp]) (tellP p.P f (wa word) [amp] (openP word p.ds p.ws)).2).2) := by
      rw [tellP_succ, if_neg (by rw [hP]; decide)]
    rw [e] at h
    have hwl := hp.ws
    unfold bnd at hwl
    generalize ho : openP word p.ds p.ws = o at *
    generalize ha : tellP p.P f (wa word) [amp] o = a at *
    generalize hb : tellP p.P f (wb word) (a.1 ++ [amp]) a.2 = b at *
    have la : a.2.length ≤ o.length + bnd f := by rw [← ha]; exact tellP_len
    have lb : b.2.length ≤ a.2.length + bnd f := by rw [← hb]; exact tellP_len
    have da : a.1 = [amp] ∨ a.1 = [] := by rw [← ha]; exact tellP_ds
    have d4 := dsok_of da
    have d5 : DsOk b.1 := by rw [← hb]; exact dsok_tell d4
    have cn : cnt f ≤ 100 := by
      have : f ≤ 2 := by wtm_at "om"
      rcases f with _ | _ | _ | f
      · decide
      · decide
      · decide
      · wtm_at "om"
    let J : Nat → WS → Prop := fun i q => match i with
      | 0 => q = p | 1 => st p [] o q | 2 => st p [amp] o q | 3 => st p a.1 a.2 q | 4 => st p (a.1 ++ [amp]) a.2 q | 5 => st p b.1 b.2 q | _ => en p word b.1 b.2 q
    refine tell_walkS (n := f + 1) (N := cnt f) (J := J) hK R ?_ (by wtm_at "om") cn ?_ ?_ ?_ ?_ rfl fun D q j => h D q j
    · intro i q j
      match i, j with
      | 0, j => exact congrArg WS.x j
      | 1, ⟨_, _, _, e⟩ => rw [e]
      | 2, ⟨_, _, _, e⟩ => rw [e]
      | 3, ⟨_, _, _, e⟩ => rw [e]
      | 4, ⟨_, _, _, e⟩ => rw [e]
      | 5, ⟨_, _, _, e⟩ => rw [e]
      | (n + 6), ⟨_, e⟩ => rw [e]
    · intro A' ρ' Q' q ad t R' j had hQ
      rw [show q = p from j]
      exact live_start hK hL R' hp hi hP hgw (by wtm_at "om") had (by rw [ho]; exact hQ)
    · intro i A' ρ' Q' q t hi2 R' j hQ
      have : i = 0 ∨ i = 1 := by wtm_at "om"
      rcases this with rfl | rfl
      · exact st_data (ds := []) hK R' hi (by decide) j hQ
      · exact st_data (ds := a.1) hK R' hi (by rcases da with e | e <;> rw [e] <;> decide) j hQ
    · intro i A' ρ' Q' q t hi2 R' j hQ
      have : i = 0 ∨ i = 1 := by wtm_at "om"
      rcases this with rfl | rfl
      · refine st_tell (word := wa word) (ds := [amp]) (ws := o) (ih f rfl) (R'.le (by wtm_at "om")) hp hi ?_ (fun v hv => hg v (.tail _ (List.mem_append_left _ hv))) (.inr (.inl rfl)) (by wtm_at "om") j (by rw [ha]; exact hQ)
        unfold wa
        have : (Str.ofString "a").length = 1 := rfl
        rw [Str.length_append]; wtm_at "om"
      · refine st_tell (word := wb word) (ds := a.1 ++ [amp]) (ws := a.2) (ih f rfl) (R'.le (by wtm_at "om")) hp hi ?_ (fun v hv => hg v (.tail _ (List.mem_append_right _ hv))) d4 (by wtm_at "om") j (by rw [hb]; exact hQ)
        unfold wb
        have : (Str.ofString "b").length = 1 := rfl
        rw [Str.length_append]; wtm_at "om"
    · intro A' ρ' Q' q t R' j hQ
      exact live_end hK R' hp.ok (by have := hp.nl; wtm_at "om") (by have := hp.nsl; wtm_at "om") (by have := hp.k; wtm_at "om") (by wtm_at "om") d5 hi hgw (by wtm_at "om") j hQ
theorem told_step (hK : C.K = KK w.params) (hL : lam03 ∈ C.lams) (ih : ∀ g, f = g + 1 → Told prog w C g) : Told prog w C f := by
  intro A ρ E p word t Q R hp hw hg h
  by_cases hi : p.ign ≠ 0 ∨ p.P (tagOf word) = true
  · refine told_ign hK ih R hp hw hg hi fun D seen dn hs => ?_
    have := h D seen dn hs
    have e : (if p.ign = 0 then tellP p.P f word p.ds p.ws else (p.ds, p.ws)) = (p.ds, p.ws) := by
      split
      · have hP := hi.resolve_left (fun x => x (by assumption))
        cases f <;> unfold tellP <;> rw [if_pos hP]
      · rfl
    rw [e] at this
    exact this
  · have h0 : p.ign = 0 := by
      by_cases x : p.ign = 0
      · exact x
      · exact absurd (.inl x) hi
    have hP : p.P (tagOf word) = false := by
      cases x : p.P (tagOf word)
      · rfl
      · exact absurd (.inr x) hi
    rw [if_pos h0] at h
    refine told_live hK hL ih R hp hw hg h0 hP ?_
    rintro D q ⟨dn, rfl⟩
    exact h D true dn fun _ => rfl
theorem told (hK : C.K = KK w.params) (hL : lam03 ∈ C.lams) : ∀ f, Told prog w C f := by
  intro f
  induction f with
  | zero => exact told_step hK hL fun g e => by cases e
  | succ f ih => exact told_step hK hL fun g e => by cases e; exact ih
end
set_option maxHeartbeats 1000000
noncomputable def askU (word : Str) : Str := Txt.upper word ++ Str.ofString "*/aaababbbaa/"
structure PageOk (word : Str) : Prop where
  up : (Txt.upper word).length ≤ 1000
  sp : (Txt.split (askU word) (Str.ofString "/")).length ≤ 1000
  ask : (asked (askU word)).length ≤ 1000
noncomputable def pageJ (pages : List Str) : Str := Builtin.Str.glued Str.empty (pages.map fun z => Str.ofString " &amp; " ++ z)
noncomputable def pageS (word : Str) (pages : List Str) : Str := Str.ofString "<_" ++ word ++ Str.ofString "_>" ++ pageJ pages ++ Str.ofString "</_" ++ word ++ Str.ofString "_>"
noncomputable def pageP (H : Str → Bool) : Nat → Str → Str
  | 0, word => if H word = true then Str.ofString "" else pageS word []
  | f + 1, word => if H word = true then Str.ofString "" else pageS word [pageP H f (wa word), pageP H f (wb word)]
section
variable {prog : Program} {w : World} {C : Cx} {A : Around} {σ ρ : Led} {E : Value → Led → Prop} {p q : WS} {word : Str} {t : Tok} {Q : Value → Led → Prop} {f : Nat} {ags : List Str} {rec d l : Addr} {fs : List (Str × Value)}
theorem T_applies {u : Str} (hK : C.K = KK w.params) (R : Rm 3 A) (h1 : (rec, .ins 76 d) ∈ σ) (h2 : (d, .idc fs) ∈ σ) (h3 : fs.lookup (Str.ofString "useragents") = some (.ref l)) (h4 : (l, .lst (txts ags)) ∈ σ) (hu : u.length ≤ 1000000) (hu1 : (Txt.split u (Str.ofString "/")).length ≤ 1000000) (hu2 : (asked u).length ≤ 1000000) (hag : ∀ a ∈ ags, (Txt.lower a).length ≤ 1000000)
    (hQ : Q (.bool (ags.any (hits (asked u)))) σ) : T prog w C A σ (call (.ref 66) [.ref rec, .str u t]) Q E := fun _ S => applies_test hK S R h1 h2 h3 h4 hu hu1 hu2 hag fun _ S' => ⟨_, hQ, S'⟩
theorem itsAB {it : Addr} {t : Tok} (hh : A.handled = none) : Its C prog w A it (sitr (Str.ofString "ab") t) ([false, true].map fun b => Value.str (cond b (Str.ofString "b") (Str.ofString "a")) 0) (fun _ => True) := by
  have := itsS (C := C) (prog := prog) (w := w) (A := A) (x := Str.ofString "ab") (it := it) (t := t) hh
  rw [ab_list] at this
  exact this
theorem pg_bounds {pages : List Str} {B : Nat} (h : ∀ z ∈ pages, z.length ≤ B) (hl : pages.length ≤ 2) : (pages.map fun z => Str.ofString " &amp; " ++ z).foldl (fun n p => n + p.length + (Str.ofString "").length) 0 ≤ 2 * (B + 7) ∧ (pageJ pages).length ≤ 2 * (B + 7) := by
  have e7 : (Str.ofString " &amp; ").length = 7 := rfl
  have e0 : (Str.ofString "").length = 0 := rfl
  have e0' : Str.empty.length = 0 := rfl
  unfold pageJ
  rw [PySem.size_glued, e0', e0]
  match pages, h, hl with
  | [], _, _ => exact ⟨Nat.zero_le _, Nat.zero_le _⟩
  | [x], h, _ =>
    have := h x (.head _)
    simp only [List.map_cons, List.map_nil, List.foldl_cons, List.foldl_nil, List.sum_cons, List.sum_nil, Str.length_append]
    wtm_at "om"
  | [x, y], h, _ =>
    have := h x (.head _)
    have := h y (.tail _ (.head _))
    simp only [List.map_cons, List.map_nil, List.foldl_cons, List.foldl_nil, List.sum_cons, List.sum_nil, Str.length_append]
    wtm_at "om"
  | x :: y :: z :: r, _, hl => simp at hl
theorem pg_list {pages : List Str} : List.filterMap (fun z => some (Value.str (Str.ofString " &amp; " ++ z) 0)) pages = txts (pages.map fun z => Str.ofString " &amp; " ++ z) := by
  unfold txts
  rw [List.map_map]
  induction pages with
  | nil => rfl
  | cons a r ih => rw [List.filterMap_cons, List.map_cons, ih]; rfl
theorem page_walk {n : Nat} {pa pb : Str} (hK : C.K = KK w.params) (R : Rm (n + 10) A) (h1 : (rec, .ins 76 d) ∈ σ) (h2 : (d, .idc fs) ∈ σ) (h3 : fs.lookup (Str.ofString "useragents") = some (.ref l)) (h4 : (l, .lst (txts ags)) ∈ σ) (h5 : fs.lookup (Str.ofString "applies_to") = none) (hag : ∀ a ∈ ags, (Txt.lower a).length ≤ 1000000)
    (hf : word.length ≤ 3) (hok : PageOk word) (hpa : pa.length ≤ 10000) (hpb : pb.length ≤ 10000)
    (PAGE : word.length < 3 → ∀ (A' : Around) (σ' : Led) (Q' : Value → Led → Prop) i t, i < 2 → Rm (n + 6) A' → σ.Sublist σ' → (∀ t, Q' (.str (if i = 0 then pa else pb) t) σ') → T prog w C A' σ' (call (.ref 246) [.ref rec, .str (word ++ Str.ofString (if i = 0 then "a" else "b")) t]) Q' NoE)
    (h : ∀ t, Q (.str (if ags.any (hits (asked (askU word))) = true then Str.ofString "" else pageS word (if word.length < 3 then [pa, pb] else [])) t) σ) :
    T prog w C A σ (call (.ref 246) [.ref rec, .str word t]) Q E := by
  refine T_callTC ?_
  refine' T_callG (m := []) (binds := [(Str.ofString "record", .ref rec), (Str.ofString "word", .str word t)])
    (fun L => [(Str.ofString "word", L + 1 + 1), (Str.ofString "record", L + 1)]) (fun L => [(L + 1 + 1, .cel (some (.str word 0))), (L + 1, .cel (some (.ref rec)))]) R.room (ho := ?ho) (hcd := ?hcd) (hbind := ?hb) (hloc := ?hloc) (hm := ?hm) (hcells := ?hc1) (hcv := ?hc2) (hnd := ?hc3) (hnd2 := ?hc4) (h := ?h) (hco := ?hco) (hgen := ?hgen) (hk := ?hk)
  case ho => rw [hK]; exact lookup_KK rfl rfl
  case hcd => wtm_at "r_k"
  case hb => exact fun s X => kp_binds (K := KK w.params) (hK ▸ X) fun S => by kernel_rfl!
  case hloc => kernel_rfl
  case hm => exact rfl
  case hco => rfl
  case hgen => rfl
  case hk => rfl
  case hc1 => exact fun L => rfl
  case hc2 => exact fun L => rfl
  case hc3 => decide
  case hc4 => exact fun L => rfl
  intro L
  dsimp only [List.cons_append, List.nil_append]
  wtm_at "t_go"
  refine T_mth (by wtm_at "r_mem") (by wtm_at "r_mem") (m76applies_to hK) h5 ?_
  wtm_at "t_go"
  have hu := hok.up
  have e13 : (Str.ofString "*/aaababbbaa/").length = 13 := rfl
  refine T_upper (by wtm_at "om") fun _ => ?_
  wtm_at "t_go"
  refine T_addS (by wtm_at "om") fun _ => ?_
  wtm_at "t_go"
  refine T_applies hK ((R.deeper _).le (by wtm_at "om")) (by wtm_at "r_mem") (by wtm_at "r_mem") h3 (by wtm_at "r_mem") (by rw [Str.length_append]; wtm_at "om") (Nat.le_trans hok.sp (by decide)) (Nat.le_trans hok.ask (by decide)) hag ?_
  generalize hH : ags.any (hits (asked (Txt.upper word ++ Str.ofString "*/aaababbbaa/"))) = H
  have hH2 : ags.any (hits (asked (askU word))) = H := hH
  rw [hH2] at h
  wtm_at "t_go"
  cases H with
  | true =>
    rw [if_pos rfl] at h
    wtm_at "t_go"
    refine ⟨σ, ?_, h _⟩
    iterate 3 apply List.Sublist.cons
    exact List.Sublist.refl _
  | false =>
    rw [if_neg (by decide)] at h
    wtm_at "t_go"
    wtm_at "t_lc"
    wtm_at "t_go"
    have ew : (word.length < 3) = ((word.length : Int) < 3) := by rw [eq_iff_iff]; wtm_at "om"
    refine T_iterS (by decide +kernel) fun it => ?_
    refine T_comp [false, true] (fun b => .str (cond b (Str.ofString "b") (Str.ofString "a")) 0) (fun b => if word.length < 3 then some (.str (cond b pb pa) 0) else none) (itsAB R.hand) trivial (by decide) rfl rfl (by decide) ?_ ?_ (fun _ _ _ => trivial)
    · intro D L2 b ys i m hb
      have hwl : word.length ≤ 1000000 := by wtm_at "om"
      wtm_at "t_go"
      by_cases hlt : word.length < 3
      · refine ifT (by rw [decide_eq_true_eq]; wtm_at "om") ?_
        wtm_at "t_go"
        refine T_addS (by have : (bif b then Str.ofString "b" else Str.ofString "a").length = 1 := by { cases b <;> rfl }
                          wtm_at "om") fun _ => ?_
        wtm_at "t_go"
        cases b
        · refine PAGE hlt _ _ _ 0 _ (by decide) ((R.deeper _).le (by wtm_at "om")) (by repeat (first | exact List.Sublist.refl _ | apply List.Sublist.cons)) fun _ => ?_
          exact ⟨by rw [if_pos hlt]; rfl, List.Sublist.refl _⟩
        · refine PAGE hlt _ _ _ 1 _ (by decide) ((R.deeper _).le (by wtm_at "om")) (by repeat (first | exact List.Sublist.refl _ | apply List.Sublist.cons)) fun _ => ?_
          exact ⟨by rw [if_pos hlt]; rfl, List.Sublist.refl _⟩
      · refine ifF (by rw [decide_eq_false_iff_not]; wtm_at "om") ?_
        exact ⟨by rw [if_neg hlt], List.Sublist.refl _⟩
    · have hpg : List.filterMap (fun b => if word.length < 3 then some (Value.str (bif b then pb else pa) 0) else none) [false, true] = txts (if word.length < 3 then [pa, pb] else []) := by
        by_cases hlt : word.length < 3
        · simp only [if_pos hlt]; rfl
        · simp only [if_neg hlt]; rfl
      rw [hpg]
      have hpb2 : ∀ z ∈ (if word.length < 3 then [pa, pb] else []), z.length ≤ 10000 := by
        intro z hz
        split at hz
        · rcases List.mem_cons.mp hz with rfl | hz
          · exact hpa
          · rw [List.mem_singleton.mp hz]; exact hpb
        · cases hz
      have hpl : (if word.length < 3 then [pa, pb] else []).length ≤ 2 := by split <;> exact Nat.le_of_ble_eq_true rfl
      generalize (if word.length < 3 then [pa, pb] else []) = pages at h hpb2 hpl ⊢
      intro L3 D3 m3
      wtm_at "t_go"
      refine ⟨_, _, List.Sublist.refl _, ?_⟩
      wtm_at "t_go"
      have e2 : (Str.ofString "<_").length = 2 := rfl
      have e2' : (Str.ofString "_>").length = 2 := rfl
      have e3 : (Str.ofString "</_").length = 3 := rfl
      refine T_addS (by wtm_at "om") fun _ => ?_
      wtm_at "t_go"
      refine T_addS (by rw [Str.length_append]; wtm_at "om") fun _ => ?_
      wtm_at "t_go"
      wtm_at "t_lc"
      wtm_at "t_go"
      refine T_iterL (by wtm_at "r_mem") fun it2 => ?_
      refine T_comp pages (fun z => .str z 0) (fun z => some (.str (Str.ofString " &amp; " ++ z) 0)) (itsL (l := D3) R.hand) (by wtm_at "r_mem") (by wtm_at "om") rfl rfl (by decide) ?_ ?_
      · intro D L2 z ys i m hz
        have hz2 := hpb2 z hz
        wtm_at "t_go"
        refine T_addS (by have : (Str.ofString " &amp; ").length = 7 := rfl
                          wtm_at "om") fun _ => ?_
        exact ⟨rfl, List.Sublist.refl _⟩
      · rw [pg_list]
        have hb := pg_bounds hpb2 hpl
        have eJ : Builtin.Str.glued (Str.ofString "") (pages.map fun z => Str.ofString " &amp; " ++ z) = pageJ pages := rfl
        intro D4
        wtm_at "t_go"
        dsimp only [List.cons_append, List.nil_append]
        refine T_join (.head _) (by wtm_at "om") (by rw [eJ]; wtm_at "om") fun _ => ?_
        rw [eJ]
        wtm_at "t_go"
        refine T_addS (by rw [Str.length_append, Str.length_append]; wtm_at "om") fun _ => ?_
        wtm_at "t_go"
        refine T_addS (by rw [Str.length_append, Str.length_append, Str.length_append]; wtm_at "om") fun _ => ?_
        wtm_at "t_go"
        refine T_addS (by rw [Str.length_append, Str.length_append, Str.length_append, Str.length_append]; wtm_at "om") fun _ => ?_
        wtm_at "t_go"
        refine T_addS (by rw [Str.length_append, Str.length_append, Str.length_append, Str.length_append, Str.length_append]; wtm_at "om") fun _ => ?_
        wtm_at "t_go"
        refine ⟨σ, ?_, h _⟩
        iterate 5 apply List.Sublist.cons
        exact List.Sublist.refl _
end
set_option maxHeartbeats 1000000
noncomputable def bp : Nat → Nat | 0 => 15 | f + 1 => 15 + 2 * (bp f + 7)
noncomputable def pgH (ags : List Str) (word : Str) : Bool := ags.any (hits (asked (askU word)))
theorem wa_len {word : Str} : (wa word).length = word.length + 1 := by unfold wa; rw [Str.length_append]; rfl
theorem wb_len {word : Str} : (wb word).length = word.length + 1 := by unfold wb; rw [Str.length_append]; rfl
theorem pageS_len {word : Str} {pages : List Str} (hw : word.length ≤ 3) : (pageS word pages).length ≤ 15 + (pageJ pages).length := by
  have e2 : (Str.ofString "<_").length = 2 := rfl
  have e2' : (Str.ofString "_>").length = 2 := rfl
  have e3 : (Str.ofString "</_").length = 3 := rfl
  unfold pageS
  simp only [Str.length_append]
  wtm_at "om"
theorem pageP_len {H : Str → Bool} {f : Nat} : ∀ {word : Str}, word.length + f = 3 → (pageP H f word).length ≤ bp f := by
  induction f with
  | zero =>
    intro word hw
    unfold pageP bp
    split
    · exact Nat.zero_le _
    · have := @pageS_len word [] (by wtm_at "om")
      have e : (pageJ []).length = 0 := rfl
      wtm_at "om"
  | succ f ih =>
    intro word hw
    unfold pageP bp
    split
    · exact Nat.zero_le _
    · have h1 := @ih (wa word) (by rw [wa_len]; wtm_at "om")
      have h2 := @ih (wb word) (by rw [wb_len]; wtm_at "om")
      have := @pageS_len word [pageP H f (wa word), pageP H f (wb word)] (by wtm_at "om")
      have h3 := (pg_bounds (pages := [pageP H f (wa word), pageP H f (wb word)]) (B := bp f) (by
        intro z hz
        rcases List.mem_cons.mp hz with rfl | hz
        · exact h1
        · rw [List.mem_singleton.mp hz]; exact h2) (Nat.le_refl 2)).2
      wtm_at "om"
theorem bp_small {f : Nat} (h : f ≤ 3) : bp f ≤ 10000 := by
  rcases f with _ | _ | _ | _ | f
  · decide
  · decide
  · decide
  · decide
  · wtm_at "om"
section
variable {prog : Program} {w : World} {C : Cx} {ags : List Str} {rec d l : Addr} {fs : List (Str × Value)}
theorem paged (hK : C.K = KK w.params) (h3 : fs.lookup (Str.ofString "useragents") = some (.ref l)) (h5 : fs.lookup (Str.ofString "applies_to") = none) (hag : ∀ a ∈ ags, (Txt.lower a).length ≤ 1000000) :
    ∀ f (A : Around) (σ : Led) (E : Value → Led → Prop) (word : Str) (t : Tok) (Q : Value → Led → Prop), Rm (4 * f + 10) A → (rec, .ins 76 d) ∈ σ → (d, .idc fs) ∈ σ → (l, .lst (txts ags)) ∈ σ → word.length + f = 3 → (∀ v ∈ subW f word, PageOk v) →
      (∀ t, Q (.str (pageP (pgH ags) f word) t) σ) → T prog w C A σ (call (.ref 246) [.ref rec, .str word t]) Q E := by
  intro f
  induction f with
  | zero =>
    intro A σ E word t Q R h1 h2 h4 hw hok h
    refine page_walk (n := 0) (pa := Str.empty) (pb := Str.empty) hK R h1 h2 h3 h4 h5 hag (by wtm_at "om") (hok word subW_self) (Nat.zero_le _) (Nat.zero_le _) (fun x => by wtm_at "om") fun t => ?_
    have := h t
    unfold pageP at this
    rw [if_neg (by wtm_at "om" : ¬ word.length < 3)]
    exact this
  | succ f ih =>
    intro A σ E word t Q R h1 h2 h4 hw hok h
    refine page_walk (n := 4 * f + 4) (pa := pageP (pgH ags) f (wa word)) (pb := pageP (pgH ags) f (wb word)) hK (R.le (by wtm_at "om")) h1 h2 h3 h4 h5 hag (by wtm_at "om") (hok word subW_self)
      (Nat.le_trans (pageP_len (by rw [wa_len]; wtm_at "om")) (bp_small (by wtm_at "om"))) (Nat.le_trans (pageP_len (by rw [wb_len]; wtm_at "om")) (bp_small (by wtm_at "om"))) ?_ fun t => ?_
    · intro _ A' σ' Q' i t hi R' hs hQ
      have : i = 0 ∨ i = 1 := by wtm_at "om"
      rcases this with rfl | rfl
      · exact ih A' σ' NoE (wa word) t Q' (R'.le (by wtm_at "om")) (hs.subset h1) (hs.subset h2) (hs.subset h4) (by rw [wa_len]; wtm_at "om") (fun v hv => hok v (.tail _ (List.mem_append_left _ hv))) hQ
      · exact ih A' σ' NoE (wb word) t Q' (R'.le (by wtm_at "om")) (hs.subset h1) (hs.subset h2) (hs.subset h4) (by rw [wb_len]; wtm_at "om") (fun v hv => hok v (.tail _ (List.mem_append_right _ hv))) hQ
    · have := h t
      unfold pageP at this
      rw [if_pos (by wtm_at "om" : word.length < 3)]
      exact this
end
set_option maxHeartbeats 1000000
noncomputable instance (w : Str) : Decidable (goodW w) := inferInstanceAs (Decidable (_ ≠ _))
theorem all_good : ∀ v ∈ subW 3 (Str.ofString ""), goodW v := by
  have : ((subW 3 (Str.ofString "")).all fun v => decide (goodW v)) = true := by decide +kernel
  intro v hv
  exact of_decide_eq_true (List.all_eq_true.mp this v hv)
theorem all_page : ∀ v ∈ subW 3 (Str.ofString ""), PageOk v := by
  have : ((subW 3 (Str.ofString "")).all fun v => decide ((Txt.upper v).length ≤ 1000) && (decide ((Txt.split (askU v) (Str.ofString "/")).length ≤ 1000) && decide ((asked (askU v)).length ≤ 1000))) = true := by decide +kernel
  intro v hv
  have h := List.all_eq_true.mp this v hv
  rw [Bool.and_eq_true, Bool.and_eq_true] at h
  exact ⟨of_decide_eq_true h.1, of_decide_eq_true h.2.1, of_decide_eq_true h.2.2⟩
set_option maxHeartbeats 1000000
noncomputable def rgp (n : Nat) : PO := .prd fun o => ∃ t u v, o = { cls := .type "range", data := .fields #[.int 0 t, .int n u, .int 1 v] }
section
variable {prog : Program} {w : World} {C : Cx} {A : Around} {σ ρ : Led} {E : Value → Led → Prop} {Q : Value → Led → Prop} {t u : Tok}
theorem T_range {n : Nat} {k : Int} (hk : k = n) (h : ∀ r, Q (.ref r) ((r, rgp n) :: σ)) : T prog w C A σ (call (.type "range") [.int k t]) Q E := fun s S => by
  subst hk
  exact call_range_1 ⟨_, h _, S.push (p := rgp n) ⟨_, _, _, rfl⟩ rfl _⟩
theorem T_iterR {n : Nat} {r : Addr} (hr : (r, rgp n) ∈ σ) (hn : n ≤ 1000000) (h : ∀ it, Q (.ref it) ((it, ritr 0 1 n 0) :: σ)) : T prog w C A σ (pyIter (.ref r)) Q E := fun s S => by
  obtain ⟨o, ho, a, b, c, rfl⟩ := S.get hr
  refine wpAny_pyIter_range (a := 0) (b := n) (c := 1) ho (small_one (by decide) (by decide) (by wtm_at "om") (by wtm_at "om")) ⟨_, h _, S.push (p := ritr 0 1 n 0) ?_ rfl _⟩
  have e : Builtin.Range.rangeSize 0 n 1 = n := by rw [rangeSize_one]; split <;> wtm_at "om"
  rw [e]
  show _ = _
  simp
theorem T_itemS {value slice : Expr} {x : Str} {k : Int} {c : Nat} (h0 : 0 ≤ k) (hfit : k < 2 ^ 63) (hc : (seqIndex? k x.length).bind (x.cps[·]?) = some c) (h : ∀ t, Q (.str ⟨#[c]⟩ t) σ)
    (hs : subscripted slice false (.str x t) (.int k u) = operate [.str x t, .int k u] (getItem (.str x t) (.int k u)) := by with_unfolding_all rfl) : T prog w C A σ (subscriptTail value slice (.str x t) (.int k u)) Q E := fun s S =>
  tail_any (typeIs_str _ _ _) PySem.F.slot_str_getitem.lookup (P.getItem_str (by rw [Bool.or_eq_false_iff, decide_eq_false_iff_not, decide_eq_false_iff_not]; wtm_at "om") hc ⟨_, h _, S.tok _⟩) hs
noncomputable def letterOf (i : Nat) : Str := ⟨#[(#[97, 98, 65, 66] : Array Nat)[i]?.getD 0]⟩
noncomputable def spellP (number size : Nat) : Str := Builtin.Str.glued (Str.ofString "") ((List.range size).map fun k => letterOf (number / 10 ^ k % 10 % 4))
theorem divp {k : Nat} (h : k < 6) (a : Int) : Builtin.divisionGoesByPylong a ((10 ^ k : Nat) : Int) = false := by
  unfold Builtin.divisionGoesByPylong
  have : ∀ k, k < 6 → (decide ((if (((10 ^ k : Nat) : Int) == 0) = true then 0 else ((10 ^ k : Nat) : Int).natAbs.log2 / 30 + 1) > 300)) = false := by decide +kernel
  dsimp only
  rw [Bool.and_eq_false_iff]
  exact .inl (this k h)
theorem letter_at : ∀ j : Nat, j < 4 → (seqIndex? (j : Int) (Str.ofString "abAB").length).bind ((Str.ofString "abAB").cps[·]?) = some ((#[97, 98, 65, 66] : Array Nat)[j]?.getD 0) := by decide +kernel
theorem fm_txts {α : Type} {l : List α} {g : α → Str} : List.filterMap (fun k => some (Value.str (g k) 0)) l = txts (l.map g) := by
  unfold txts
  induction l with
  | nil => rfl
  | cons a r ih => rw [List.filterMap_cons, List.map_cons, List.map_cons, ih]
theorem ones_fold {l : List Str} (h : ∀ z ∈ l, z.length = 1) : ∀ a, l.foldl (fun n p => n + p.length + (Str.ofString "").length) a = a + l.length := by
  have e0 : (Str.ofString "").length = 0 := rfl
  induction l with
  | nil => intro a; rfl
  | cons x r ih =>
    intro a
    rw [List.foldl_cons, ih (fun z hz => h z (.tail _ hz)), h x (.head _), e0, List.length_cons]
    wtm_at "om"
theorem ones_sum {l : List Str} (h : ∀ z ∈ l, z.length = 1) : (l.map (·.length)).sum = l.length := by
  induction l with
  | nil => rfl
  | cons x r ih => rw [List.map_cons, List.sum_cons, ih (fun z hz => h z (.tail _ hz)), h x (.head _), List.length_cons]; wtm_at "om"
theorem T_spelled {number size : Nat} (hK : C.K = KK w.params) (R : Rm 4 A) (hnum : number < 10 ^ 7) (hs : size ≤ 6) (h : ∀ t, Q (.str (spellP number size) t) σ) :
    T prog w C A σ (call (.ref 229) [.int number t, .int size u]) Q E := by
  refine T_callTC ?_
  refine' T_callG (m := [(Str.ofString "size", .int size 0)]) (binds := [(Str.ofString "number", .int number t), (Str.ofString "size", .int size u)])
    (fun L => [(Str.ofString "number", L + 1)]) (fun L => [(L + 1, .cel (some (.int number 0)))]) R.room (ho := ?ho) (hcd := ?hcd) (hbind := ?hb) (hloc := ?hloc) (hm := ?hm) (hcells := ?hc1) (hcv := ?hc2) (hnd := ?hc3) (hnd2 := ?hc4) (h := ?h) (hco := ?hco) (hgen := ?hgen) (hk := ?hk)
  case ho => rw [hK]; exact lookup_KK rfl rfl
  case hcd => wtm_at "r_k"
  case hb => exact fun s X => kp_binds (K := KK w.params) (hK ▸ X) fun S => by kernel_rfl!
  case hloc => kernel_rfl
  case hm => exact rfl
  case hco => rfl
  case hgen => rfl
  case hk => rfl
  case hc1 => exact fun L => rfl
  case hc2 => exact fun L => rfl
  case hc3 => decide
  case hc4 => exact fun L => rfl
  intro L
  dsimp only [List.cons_append, List.nil_append]
  wtm_at "t_go"
  wtm_at "t_lc"
  wtm_at "t_go"
  refine T_range rfl fun r => ?_
  refine T_iterR (.head _) (by wtm_at "om") fun it => ?_
  refine T_comp (List.range size) (fun i => .int (0 + 1 * (i : Int)) 0) (fun k => some (.str (letterOf (number / 10 ^ k % 10 % 4)) 0)) (itsR R.hand) trivial (by rw [List.length_range]; wtm_at "om") rfl rfl (by decide) ?_ ?_ (fun _ _ _ => trivial)
  · intro D L2 k ys i m hk
    have hk6 : k < 6 := Nat.lt_of_lt_of_le (List.mem_range.mp hk) hs
    wtm_at "t_go"
    refine T_powI (by wtm_at "om") (by rw [show Builtin.Int.intBits 10 = 4 by decide +kernel]; wtm_at "om") fun _ => ?_
    have e1 : (10 : Int) ^ ((0 + 1 * (k : Int)).toNat) = ((10 ^ k : Nat) : Int) := by
      rw [show (0 + 1 * (k : Int)).toNat = k by wtm_at "om"]; simp
    rw [e1]
    have e10 : (0 : Int) < ((10 ^ k : Nat) : Int) := Int.natCast_pos.mpr (Nat.pow_pos (by decide))
    refine T_divI (by wtm_at "om") (divp hk6 _) fun _ => ?_
    rw [Int.fdiv_eq_ediv_of_nonneg _ (Int.le_of_lt e10), ← Int.natCast_ediv]
    wtm_at "t_go"
    refine T_modI (by decide) fun _ => ?_
    rw [Int.fmod_eq_emod_of_nonneg _ (by decide), show (10 : Int) = ((10 : Nat) : Int) from rfl, ← Int.natCast_emod]
    wtm_at "t_go"
    refine T_modI (by decide) fun _ => ?_
    rw [Int.fmod_eq_emod_of_nonneg _ (by decide), show (4 : Int) = ((4 : Nat) : Int) from rfl, ← Int.natCast_emod]
    have hj : number / 10 ^ k % 10 % 4 < 4 := Nat.mod_lt _ (by decide)
    refine T_itemS (by wtm_at "om") (by wtm_at "om") (letter_at _ hj) fun _ => ?_
    exact ⟨rfl, List.Sublist.refl _⟩
  · rw [fm_txts]
    have h1 : ∀ z ∈ (List.range size).map fun k => letterOf (number / 10 ^ k % 10 % 4), z.length = 1 := by
      intro z hz
      obtain ⟨k, _, rfl⟩ := List.mem_map.mp hz
      rfl
    have h2 := ones_fold h1 0
    have h3 := ones_sum h1
    rw [List.length_map, List.length_range] at h2 h3
    intro D
    wtm_at "t_go"
    dsimp only [List.cons_append, List.nil_append]
    refine T_join (.head _) (by wtm_at "om") (by rw [PySem.size_glued, h3, show (Str.ofString "").length = 0 from rfl]; wtm_at "om") fun _ => ?_
    wtm_at "t_go"
    refine ⟨σ, ?_, h _⟩
    iterate 4 apply List.Sublist.cons
    exact List.Sublist.refl _
end
set_option maxHeartbeats 1000000
section
variable {prog : Program} {w : World} {C : Cx} {A : Around} {σ ρ : Led} {E : Value → Led → Prop} {Q : Value → Led → Prop} {t u : Tok} {rec d l : Addr} {fs : List (Str × Value)} {ags : List Str}
theorem T_appliesN (hK : C.K = KK w.params) (R : Rm 3 A) (h1 : (rec, .ins 76 d) ∈ σ) (h2 : (d, .idc fs) ∈ σ) (h3 : fs.lookup (Str.ofString "useragents") = some (.ref l)) (h4 : (l, .lst (txts ags)) ∈ σ)
    (h : Q (.bool (ags.any fun x => x.cps.toList == (Str.ofString "*").cps.toList)) σ) : T prog w C A σ (call (.ref 66) [.ref rec, .none]) Q E := by
  refine' T_callF (m := [(Str.ofString "useragent", .none), (Str.ofString "self", .ref rec)]) [(Str.ofString "self", .ref rec), (Str.ofString "useragent", .none)] R.room (ho := ?ho) (hcd := ?hcd) (hbind := ?hb) (hloc := ?hloc) (hm := ?hm) (h := ?h) (hco := ?hco) (hgen := ?hgen) (hk := ?hk) (hcell := ?hcell)
  case ho => rw [hK]; exact lookup_KK rfl rfl
  case hcd => wtm_at "r_k"
  case hb => exact fun s X => kp_binds (K := KK w.params) (hK ▸ X) fun S => by kernel_rfl!
  case hloc => kernel_rfl
  case hm => exact rfl
  case hco => rfl
  case hgen => rfl
  case hk => rfl
  case hcell => decide
  intro L
  wtm_at "t_go"
  refine T_inL (by wtm_at "r_mem") ?_
  wtm_at "t_go"
  exact ⟨σ, List.sublist_cons_self _ _, h⟩
end
set_option maxHeartbeats 1000000
section
variable {elt target iter target2 iter2 : Expr} {ifs ifs2 : List Expr} {scope : Scope} {pos : Pos} {it acc : Value} {env : Env}
noncomputable abbrev two (elt target iter target2 iter2 : Expr) (ifs ifs2 : List Expr) (scope : Scope) (pos : Pos) : Expr := .ListComp elt [⟨target, iter, ifs, 0⟩, ⟨target2, iter2, ifs2, 0⟩] scope pos
theorem compTurn_two0 : compTurn (two elt target iter target2 iter2 ifs ifs2 scope pos) 0 it acc env = (do
    standAt iter.pos
    match ← pyNext it with
    | none => pure (.done .next)
    | some v =>
        letOwnedTupleGo target it v
        assign target env v
        let mut ok := true
        for c in ifs do
          if ok then ok ← isTrue c env (eval c env)
        if ok then
          let x ← eval iter2 env
          standAt iter2.pos
          let x ← foldedSetIterable iter2 env x
          let _ ← runOwn (.compStart (two elt target iter target2 iter2 ifs ifs2 scope pos) 1 (← holding [x] (pyIter x)) acc env) env
        again (.compLoop (two elt target iter target2 iter2 ifs ifs2 scope pos) 0 it acc env)) := by rfl
theorem compTurn_two1 : compTurn (two elt target iter target2 iter2 ifs ifs2 scope pos) 1 it acc env = (do
    standAt iter2.pos
    match ← pyNext it with
    | none => pure (.done .next)
    | some v =>
        letOwnedTupleGo target2 it v
        assign target2 env v
        let mut ok := true
        for c in ifs2 do
          if ok then ok ← isTrue c env (eval c env)
        if ok then
          (do let _ ← call (.builtin "list.append") [acc, ← eval elt env])
        again (.compLoop (two elt target iter target2 iter2 ifs ifs2 scope pos) 1 it acc env)) := by rfl
variable {prog : Program} {w : World} {A : Around} {E : Value → Shared → Prop} {R : Result → Shared → Prop} {s : Shared}
theorem loop_two0 (I : Nat → Shared → Prop)
    (turn : ∀ n s, I n s → wpAny (model prog w) A (pyNext it) (fun r s₁ => match r with
      | none => R (.ok .next) s₁
      | some v => wpAny (model prog w) A (assign target env v) (fun _ s₂ =>
          wpAny (model prog w) A (tests ifs env) (fun ok s₃ =>
            if ok = true then wpAny (model prog w) A (eval iter2 env) (fun x s₄ => wpAny (model prog w) A (pyIter x) (fun it2 s₅ =>
              codeAny (model prog w) A (.compStart (two elt target iter target2 iter2 ifs ifs2 scope pos) 1 it2 acc env) (fun r s₆ => match r with | .ok _ => ∃ m, m < n ∧ I m s₆ | .error _ => False) s₅) (fun _ _ => False) s₄) (fun _ _ => False) s₃
            else ∃ m, m < n ∧ I m s₃) (fun _ _ => False) s₂) (fun _ _ => False) s₁) (fun _ _ => False) s)
    (n : Nat) (h : I n s) (ht : ∀ v, letOwnedTupleGo target it v = pure () := by intro _; rfl) (hf : ∀ x, foldedSetIterable iter2 env x = pure x := by intro _; rfl) :
    codeAny (model prog w) A (.compLoop (two elt target iter target2 iter2 ifs ifs2 scope pos) 0 it acc env) R s := by
  refine codeAny_loop rfl I (fun n s hI => ?_) n h
  show wpAny _ A ((compTurn (two elt target iter target2 iter2 ifs ifs2 scope pos) 0 it acc env).onRaise (fun x => do noteFrame x env; theTreesLotGoes x)) _ _ s
  refine wpAny_noted ?_
  rw [compTurn_two0]
  refine wpAny_bind (wpAny_standAt (wpAny_bind (wpAny_mono (turn n s hI) (fun r s₁ h₁ => ?_) fun _ _ h' => h'.elim)))
  cases r with
  | none => exact wpAny_pure h₁
  | some v =>
    refine wpAny_bind (wpAny_of_eq (ht v) ?_)
    refine wpAny_bind (wpAny_mono h₁ (fun _ s₂ h₂ => wpAny_bind (wpAny_mono h₂ (fun ok s₃ h₃ => ?_) fun _ _ h' => h'.elim)) fun _ _ h' => h'.elim)
    cases ok with
    | false => exact wpAny_pure ⟨rfl, h₃⟩
    | true =>
      refine wpAny_bind (wpAny_mono h₃ (fun x s₄ h₄ => wpAny_bind (wpAny_standAt (wpAny_bind (wpAny_of_eq (hf x) ?_)))) fun _ _ h' => h'.elim)
      refine wpAny_bind (wpAny_holding (wpAny_mono h₄ (fun it2 s₅ h₅ => ?_) fun _ _ h' => h'.elim))
      refine wpAny_bind (wpAny_runOwn (h := none) (codeAny_mono h₅ fun r s₆ h₆ => ?_))
      cases r with
      | error e => exact h₆.elim
      | ok f => exact wpAny_pure ⟨rfl, h₆⟩
theorem loop_two1 (I : Nat → Shared → Prop)
    (turn : ∀ n s, I n s → wpAny (model prog w) A (pyNext it) (fun r s₁ => match r with
      | none => R (.ok .next) s₁
      | some v => wpAny (model prog w) A (assign target2 env v) (fun _ s₂ =>
          wpAny (model prog w) A (tests ifs2 env) (fun ok s₃ =>
            if ok = true then wpAny (model prog w) A (eval elt env) (fun x s₄ =>
              wpAny (model prog w) A (call (.builtin "list.append") [acc, x]) (fun _ s₅ => ∃ m, m < n ∧ I m s₅) (fun _ _ => False) s₄) (fun _ _ => False) s₃
            else ∃ m, m < n ∧ I m s₃) (fun _ _ => False) s₂) (fun _ _ => False) s₁) (fun _ _ => False) s)
    (n : Nat) (h : I n s) (ht : ∀ v, letOwnedTupleGo target2 it v = pure () := by intro _; rfl) :
    codeAny (model prog w) A (.compLoop (two elt target iter target2 iter2 ifs ifs2 scope pos) 1 it acc env) R s := by
  refine codeAny_loop rfl I (fun n s hI => ?_) n h
  show wpAny _ A ((compTurn (two elt target iter target2 iter2 ifs ifs2 scope pos) 1 it acc env).onRaise (fun x => do noteFrame x env; theTreesLotGoes x)) _ _ s
  refine wpAny_noted ?_
  rw [compTurn_two1]
  refine wpAny_bind (wpAny_standAt (wpAny_bind (wpAny_mono (turn n s hI) (fun r s₁ h₁ => ?_) fun _ _ h' => h'.elim)))
  cases r with
  | none => exact wpAny_pure h₁
  | some v =>
    refine wpAny_bind (wpAny_of_eq (ht v) ?_)
    refine wpAny_bind (wpAny_mono h₁ (fun _ s₂ h₂ => wpAny_bind (wpAny_mono h₂ (fun ok s₃ h₃ => ?_) fun _ _ h' => h'.elim)) fun _ _ h' => h'.elim)
    cases ok with
    | false => exact wpAny_pure ⟨rfl, h₃⟩
    | true =>
      exact wpAny_bind (wpAny_bind (wpAny_mono h₃ (fun x s₄ h₄ => wpAny_bind (wpAny_mono h₄ (fun _ s₅ h₅ => wpAny_pure (wpAny_pure ⟨rfl, h₅⟩)) fun _ _ h' => h'.elim)) fun _ _ h' => h'.elim))
theorem start_two1 (h0 : codeAny (model prog w) A (.compLoop (two elt target iter target2 iter2 ifs ifs2 scope pos) 1 it acc env) R s)
    (h : wpAny (model prog w) A (pyIter it) (fun it' s' => codeAny (model prog w) A (.compLoop (two elt target iter target2 iter2 ifs ifs2 scope pos) 1 it' acc env) R s') (notedBy (model prog w) A env fun x s' => R (.error x) s') s) :
    codeAny (model prog w) A (.compStart (two elt target iter target2 iter2 ifs ifs2 scope pos) 1 it acc env) R s := by
  refine codeAny_of_tree ?_
  show wpAny _ _ ((compStart (two elt target iter target2 iter2 ifs ifs2 scope pos) 1 it acc env).onRaise (fun x => do noteFrame x env; standAt theWindowsPlace)) _ _ s
  refine wpAny_notedAt ?_
  unfold compStart
  show wpAny _ _ (ask >>= _) _ _ s
  refine wpAny_bind (wpAny_askSetting (wpAny_ite ?_))
  split
  · first
      | exact wpAny_bind (wpAny_pure (wpAny_pure (And.intro rfl h0)))
      | exact wpAny_pure (And.intro rfl h0)
  · first
      | exact wpAny_bind (wpAny_rule (wpAny_bind (wpAny_standAt (wpAny_bind (wpAny_mono h (fun it' s' h' => wpAny_pure (And.intro rfl h')) fun _ _ x => x)))))
      | (refine wpAny_bind (wpAny_rule ?_); show wpAny _ _ (standAt iter2.pos >>= _) _ _ s; exact wpAny_bind (wpAny_standAt (wpAny_bind (wpAny_mono h (fun it' s' h' => wpAny_pure (And.intro rfl h')) fun _ _ x => x))))
end
set_option maxHeartbeats 1000000
section
variable {prog : Program} {w : World} {C : Cx} {A : Around} {τ : Led} {s : Shared} {elt target iter iter2 : Expr} {x y : Str} {px py : Pos} {ifs : List Expr} {scope : Scope} {pos : Pos} {cenv : Env} {R : Result → Shared → Prop}
theorem inner_run {it2 D : Addr} {po2 : Nat → PO} {zs ys : List Value} {need2 : Led → Prop} {q : Addr × PO} {m : List (Str × Value)} (P : List (Str × Value) → Prop) (fe : Value → Value)
    (I : Its C prog w A it2 po2 zs need2) (S : Sat C ((it2, po2 0) :: q :: (cenv.locals, .ns m) :: (D, .lst ys) :: τ) s) (hy : cenv.kindOf y = some .local) (hk : cenv.scope.kind = .function)
    (hn : ∀ m' ys', need2 (q :: (cenv.locals, .ns m') :: (D, .lst ys') :: τ)) (h0 : P m) (hP : ∀ m' z, P m' → P ((y, z) :: m')) (hz : ys.length + zs.length ≤ 1000000)
    (turn : ∀ z ys' m' j s₁, z ∈ zs → P m' → Sat C ((it2, po2 j) :: q :: (cenv.locals, .ns ((y, z) :: m')) :: (D, .lst ys') :: τ) s₁ → wpAny (model prog w) A (eval elt cenv) (fun v s₂ => er v = fe z ∧ Sat C ((it2, po2 j) :: q :: (cenv.locals, .ns ((y, z) :: m')) :: (D, .lst ys') :: τ) s₂) (fun _ _ => False) s₁)
    (fin : ∀ m' s₁, P m' → Sat C (q :: (cenv.locals, .ns m') :: (D, .lst (ys ++ zs.map fe)) :: τ) s₁ → R (.ok .next) s₁) :
    codeAny (model prog w) A (.compStart (two elt target iter (.Name y py) iter2 ifs [] scope pos) 1 (.ref it2) (.ref D) cenv) R s := by
  have loop : codeAny (model prog w) A (.compLoop (two elt target iter (.Name y py) iter2 ifs [] scope pos) 1 (.ref it2) (.ref D) cenv) R s := by
    refine loop_two1 (fun k s' => ∃ i m', k + i = zs.length ∧ P m' ∧ Sat C ((it2, po2 i) :: q :: (cenv.locals, .ns m') :: (D, .lst (ys ++ (zs.take i).map fe)) :: τ) s') ?_ zs.length ⟨0, m, rfl, h0, by simpa using S⟩
    rintro k s' ⟨i, m', hk', hPm, S'⟩
    refine I.next (hn _ _) S' (fun hx' s₁ S₁ => ?_) fun pv v hpv hv s₁ S₁ => ?_
    · have hle : zs.length ≤ i := List.getElem?_eq_none_iff.mp hx'
      rw [List.take_of_length_le hle] at S₁
      exact fin m' s₁ hPm S₁
    · have hlt : i < zs.length := (List.getElem?_eq_some_iff.mp hpv).1
      refine wpAny_assign_Name (stL S₁ (.tail (.tail .head)) hy hk fun s₂ S₂ => ?_)
      rw [hv] at S₂
      refine wpAny_tests_nil ?_
      rw [if_pos rfl]
      refine wpAny_mono (turn pv _ m' (i + 1) s₂ (List.mem_of_getElem? hpv) hPm S₂) (fun e s₃ h₃ => ?_) fun _ _ f => f.elim
      obtain ⟨he, S₃⟩ := h₃
      obtain ⟨its, nn, ho, hi⟩ := S₃.lst (.tail _ (.tail _ (.tail _ (.head _))))
      have hl : (ys ++ (zs.take i).map fe).length ≤ 1000000 := by
        rw [List.length_append, List.length_map, List.length_take]; wtm_at "om"
      refine append_at ho (fun h' hs hg => ?_) (by rw [sizeLine_eq]; have : its.size = (ys ++ (zs.take i).map fe).length := by rw [← hi, List.length_map, Array.length_toList]
                                                   wtm_at "om")
      refine ⟨k - 1, by wtm_at "om", i + 1, _, by wtm_at "om", hP m' pv hPm, S₃.set (Upd.tail (Upd.tail (Upd.tail (Upd.head (p' := .lst (ys ++ (zs.take (i + 1)).map fe)))))) hs hg ⟨_, _, rfl, ?_⟩ s₃.toks⟩
      rw [Array.toList_push, List.map_append, hi, List.take_succ, hpv]
      simp [he]
  exact start_two1 loop (I.self S loop)
end
set_option maxHeartbeats 1000000
section
variable {prog : Program} {w : World} {C : Cx} {A : Around} {τ : Led} {s : Shared} {E : Value → Led → Prop} {env : Env} {elt target iter iter2 : Expr} {x y : Str} {px py : Pos} {ifs : List Expr} {scope : Scope} {pos : Pos} {cenv : Env} {R : Result → Shared → Prop} {β : Type}
noncomputable def flat (l : List β) (keep : β → Bool) (inn : β → List Value) (fe : β → Value → Value) : List Value := l.flatMap fun b => if keep b = true then (inn b).map (fe b) else []
theorem flat_take {l : List β} {keep : β → Bool} {inn : β → List Value} {fe : β → Value → Value} {i : Nat} {b : β} (h : l[i]? = some b) : flat (l.take (i + 1)) keep inn fe = flat (l.take i) keep inn fe ++ (if keep b = true then (inn b).map (fe b) else []) := by
  unfold flat
  rw [List.take_succ, h, List.flatMap_append]
  simp
theorem flat_le {l : List β} {keep : β → Bool} {inn : β → List Value} {fe : β → Value → Value} (i : Nat) : (flat (l.take i) keep inn fe).length ≤ (flat l keep inn fe).length := by
  conv => rhs; rw [← List.take_append_drop i l]
  unfold flat
  rw [List.flatMap_append, List.length_append]
  exact Nat.le_add_right _ _
theorem outer_run {it D : Addr} {po : Nat → PO} {need : Led → Prop} {m : List (Str × Value)} (l : List β) (g : β → Value) (keep : β → Bool) (inn : β → List Value) (fe : β → Value → Value)
    (I : Its C prog w A it po (l.map g) need) (S : Sat C ((it, po 0) :: (cenv.locals, .ns m) :: (D, .lst []) :: τ) s) (hn : need τ)
    (hx : cenv.kindOf x = some .local) (hy : cenv.kindOf y = some .local) (hk : cenv.scope.kind = .function) (hxy : (x == y) = false) (hz : (flat l keep inn fe).length ≤ 1000000)
    (hneed : ∀ q τ, need τ → need (q :: τ))
    (turn : ∀ b ys i m s₁, b ∈ l → Sat C ((it, po i) :: (cenv.locals, .ns ((x, g b) :: m)) :: (D, .lst ys) :: τ) s₁ → wpAny (model prog w) A (tests ifs cenv) (fun ok s₂ => ok = keep b ∧
      if ok = true then wpAny (model prog w) A (eval iter2 cenv) (fun v s₃ => wpAny (model prog w) A (pyIter v) (fun itv s₄ => ∃ it2 po2 need2 τ', itv = .ref it2 ∧ Its C prog w A it2 po2 (inn b) need2 ∧
          (∀ m' ys', need2 ((it, po i) :: (cenv.locals, .ns m') :: (D, .lst ys') :: τ')) ∧ τ.Sublist τ' ∧ Sat C ((it2, po2 0) :: (it, po i) :: (cenv.locals, .ns ((x, g b) :: m)) :: (D, .lst ys) :: τ') s₄ ∧
          ∀ z ys' m' j s₅, z ∈ inn b → m'.lookup x = some (g b) → Sat C ((it2, po2 j) :: (it, po i) :: (cenv.locals, .ns ((y, z) :: m')) :: (D, .lst ys') :: τ') s₅ →
            wpAny (model prog w) A (eval elt cenv) (fun v s₆ => er v = fe b z ∧ Sat C ((it2, po2 j) :: (it, po i) :: (cenv.locals, .ns ((y, z) :: m')) :: (D, .lst ys') :: τ') s₆) (fun _ _ => False) s₅) (fun _ _ => False) s₃) (fun _ _ => False) s₂
      else Sat C ((it, po i) :: (cenv.locals, .ns ((x, g b) :: m)) :: (D, .lst ys) :: τ) s₂) (fun _ _ => False) s₁)
    (fin : ∀ m s₁, Sat C ((cenv.locals, .ns m) :: (D, .lst (flat l keep inn fe)) :: τ) s₁ → R (.ok .next) s₁)
    (hf : ∀ x, foldedSetIterable iter2 cenv x = pure x := by intro _; rfl) :
    codeAny (model prog w) A (.compStart (two elt (.Name x px) iter (.Name y py) iter2 ifs [] scope pos) 0 (.ref it) (.ref D) cenv) R s := by
  have loop : codeAny (model prog w) A (.compLoop (two elt (.Name x px) iter (.Name y py) iter2 ifs [] scope pos) 0 (.ref it) (.ref D) cenv) R s := by
    refine loop_two0 (hf := hf) (fun k s' => ∃ i m', k + i = l.length ∧ Sat C ((it, po i) :: (cenv.locals, .ns m') :: (D, .lst (flat (l.take i) keep inn fe)) :: τ) s') ?_ l.length ⟨0, m, rfl, by simpa [flat] using S⟩
    rintro k s' ⟨i, m', hk', S'⟩
    refine I.next (hneed _ _ (hneed _ _ hn)) S' (fun hx' s₁ S₁ => ?_) fun pv v hpv hv s₁ S₁ => ?_
    · have hle : l.length ≤ i := by
        have := List.getElem?_eq_none_iff.mp hx'
        rwa [List.length_map] at this
      rw [List.take_of_length_le hle] at S₁
      exact fin m' s₁ S₁
    · rw [List.getElem?_map] at hpv
      obtain ⟨b, hb, rfl⟩ := Option.map_eq_some_iff.mp hpv
      have hlt : i < l.length := (List.getElem?_eq_some_iff.mp hb).1
      refine wpAny_assign_Name (stL S₁ (.tail .head) hx hk fun s₂ S₂ => ?_)
      rw [hv] at S₂
      refine wpAny_mono (turn b _ (i + 1) m' s₂ (List.mem_of_getElem? hb) S₂) (fun ok s₃ h₃ => ?_) fun _ _ f => f.elim
      obtain ⟨rfl, h₃⟩ := h₃
      have e := flat_take (keep := keep) (inn := inn) (fe := fe) hb
      have hle := flat_le (l := l) (keep := keep) (inn := inn) (fe := fe) (i + 1)
      cases hkb : keep b with
      | false =>
        rw [hkb] at h₃ e
        rw [if_neg Bool.false_ne_true, List.append_nil] at e
        exact ⟨k - 1, by wtm_at "om", i + 1, _, by wtm_at "om", e ▸ h₃⟩
      | true =>
        rw [hkb] at h₃ e
        rw [if_pos rfl] at e
        refine wpAny_mono h₃ (fun v s₄ h₄ => wpAny_mono h₄ (fun itv s₅ h₅ => ?_) fun _ _ f => f) fun _ _ f => f
        obtain ⟨it2, po2, need2, τ', rfl, I2, hn2, hsub, S₅, ht⟩ := h₅
        refine inner_run (fun m' => m'.lookup x = some (g b)) (fe b) I2 S₅ hy hk hn2 (by rw [List.lookup_cons, beq_self_eq_true]) (fun m' z hm => by rw [List.lookup_cons, hxy]; exact hm) ?_ ht fun m'' s₆ _ S₆ => ?_
        · rw [e, List.length_append, List.length_map] at hle
          wtm_at "om"
        · refine ⟨k - 1, by wtm_at "om", i + 1, m'', by wtm_at "om", ?_⟩
          rw [e]
          exact S₆.sub (((hsub.cons_cons _).cons_cons _).cons_cons _)
  exact codeAny_compStart_list loop (I.self S loop)
end
set_option maxHeartbeats 1000000
section
variable {prog : Program} {w : World} {C : Cx} {A : Around} {τ : Led} {s : Shared} {E : Value → Led → Prop} {env : Env} {elt target iter iter2 : Expr} {x y : Str} {px py : Pos} {ifs : List Expr} {scope : Scope} {pos : Pos} {β : Type}
theorem T_two {it : Addr} {cl : List (Str × Addr)} {Q : Value → Led → Prop} {use : Option (Value → Sem Unit)} {po : Nat → PO} {need : Led → Prop} (l : List β) (g : β → Value) (keep : β → Bool) (inn : β → List Value) (fe : β → Value → Value)
    (I : Its C prog w A it po (l.map g) need) (hn : need τ) (hz : (flat l keep inn fe).length ≤ 1000000) (hk : scope.kind = .function) (hx : scope.names.lookup x = some .local) (hy : scope.names.lookup y = some .local) (hxy : (x == y) = false) (hcell : ∀ y ∈ scope.names, y.2 ≠ .cell)
    (turn : ∀ D L b ys i m, b ∈ l → T prog w C A ((it, po i) :: (L, .ns ((x, g b) :: m)) :: (D, .lst ys) :: τ) (tests ifs (compEnvC scope cl L env)) (fun ok σ₁ => ok = keep b ∧
      if ok = true then T prog w C A σ₁ (eval iter2 (compEnvC scope cl L env)) (fun v σ₂ => T prog w C A σ₂ (pyIter v) (fun itv σ₃ => ∃ it2 po2 need2 τ', itv = .ref it2 ∧ Its C prog w A it2 po2 (inn b) need2 ∧
          (∀ m' ys', need2 ((it, po i) :: (L, .ns m') :: (D, .lst ys') :: τ')) ∧ τ.Sublist τ' ∧ (∀ s, Sat C σ₃ s → Sat C ((it2, po2 0) :: (it, po i) :: (L, .ns ((x, g b) :: m)) :: (D, .lst ys) :: τ') s) ∧
          ∀ z ys' m' j, z ∈ inn b → m'.lookup x = some (g b) → T prog w C A ((it2, po2 j) :: (it, po i) :: (L, .ns ((y, z) :: m')) :: (D, .lst ys') :: τ') (eval elt (compEnvC scope cl L env))
            (fun v σ' => er v = fe b z ∧ ((it2, po2 j) :: (it, po i) :: (L, .ns ((y, z) :: m')) :: (D, .lst ys') :: τ').Sublist σ') NoE) NoE) NoE
      else ((it, po i) :: (L, .ns ((x, g b) :: m)) :: (D, .lst ys) :: τ).Sublist σ₁) NoE)
    (fin : FinC prog w C A τ (.lst (flat l keep inn fe)) Q E use) (hneed : ∀ q τ, need τ → need (q :: τ) := by intro _ _ h; first | exact .tail _ h | exact h)
    (hf : ∀ L x, foldedSetIterable iter2 (compEnvC scope cl L env) x = pure x := by intro _ _; rfl) :
    CompT prog w C A ((it, po 0) :: τ) env (two elt (.Name x px) iter (.Name y py) iter2 ifs [] scope pos) scope cl (newList []) use Q E (.ref it) := by
  intro s S
  unfold CompRestU
  refine wpAny_newObj_type ?_
  have S₁ := S.push (p := .lst []) (o := { cls := .type "list", data := .seq ([] : List Value).toArray }) ⟨_, _, rfl, rfl⟩ rfl s.toks
  generalize hD : s.heap.objs.size = D at S₁
  generalize hs₁ : ({ s with heap := s.heap.push { cls := .type "list", data := .seq ([] : List Value).toArray }, toks := s.toks } : Shared) = s₁ at S₁
  refine wpAny_newFunctionEnv hcell (by intro y hy; simp at hy) (fun h₁ hns hsb => ?_) hk
  obtain ⟨oL, hoL, hpL⟩ := PO.of_ns (m := []) hns (fun x => rfl)
  have kk : ∀ b o, s₁.heap.get? b = some o → h₁.get? b = some o := fun b o e => hsb.extBut b o (Nat.ne_of_lt (Heap.lt_size e)) (Heap.get?_push_of_some _ e)
  have S₂ := S₁.grow kk (Nat.le_refl _) hoL hpL (s₁.toks + ([] : List (Str × Value)).length)
  generalize hL : s₁.heap.objs.size = L at *
  have S₃ := S₂.perm (σ' := (it, po 0) :: (L, .ns []) :: (D, .lst []) :: τ) ((List.Perm.cons _ (List.Perm.swap _ _ _)).trans (List.Perm.swap _ _ _))
  refine outer_run (cenv := compEnvC scope cl L env) l g keep inn fe I S₃ hn (lookup_relabel_local hx) (lookup_relabel_local hy) (by simp [compEnvC, relabel, hk]) hxy hz hneed (fun b ys i m s₁ hb S' => ?_) (fun m s₁ S' => fin.post S') (hf := hf L)
  refine (turn D L b ys i m hb).kN S' fun ok σ₁ s₂ h₁ S₂ => ⟨h₁.1, ?_⟩
  obtain ⟨-, h₁⟩ := h₁
  cases ok with
  | false => exact S₂.sub h₁
  | true =>
    refine T.kN (E' := fun _ _ => False) h₁ S₂ fun v σ₂ s₃ h₂ S₃ => T.kN (E' := fun _ _ => False) h₂ S₃ fun itv σ₃ s₄ h₃ S₄ => ?_
    obtain ⟨it2, po2, need2, τ', rfl, I2, hn2, hsub, hS, ht⟩ := h₃
    refine ⟨it2, po2, need2, τ', rfl, I2, hn2, hsub, hS _ S₄, fun z ys' m' j s₅ hz hm S₅ => ?_⟩
    exact T.kN (E' := fun _ _ => False) (ht z ys' m' j hz hm) S₅ fun v σ' s₆ h₆ S₆ => ⟨h₆.1, S₆.sub h₆.2⟩
end
set_option maxHeartbeats 1000000
noncomputable def stepW (n : Nat) (ws : List Str) : List Str := ws ++ ws.flatMap fun v => if v.length == n then [wa v, wb v] else []
noncomputable def Wn : Nat → List Str | 0 => [Str.ofString ""] | i + 1 => stepW i (Wn i)
theorem Wn_short : ∀ i, i ≤ 3 → (∀ v ∈ Wn i, v.length ≤ 3) ∧ (Wn i).length ≤ 15 := by
  have : ∀ i, i ≤ 3 → (((Wn i).all fun v => decide (v.length ≤ 3)) && decide ((Wn i).length ≤ 15)) = true := by decide +kernel
  intro i hi
  have h := this i hi
  rw [Bool.and_eq_true] at h
  exact ⟨fun v hv => of_decide_eq_true (List.all_eq_true.mp h.1 v hv), of_decide_eq_true h.2⟩
section
variable {prog : Program} {w : World} {C : Cx} {A : Around} {σ τ : Led} {s : Shared} {E : Value → Led → Prop} {env : Env} {elt target2 iter iter2 : Expr} {x y : Str} {px py : Pos} {ifs ifs2 : List Expr} {scope : Scope} {pos : Pos}
theorem T_LC2 (cl : List (Str × Addr)) {Q : Value → Led → Prop}
    (hclos : closureFor scope env = Pure.pure cl) (hkind : scope.kind = .function) (hnames : ∀ x ∈ scope.names, x.2 = .local → scope.names.lookup x.1 = some .local)
    (h : T prog w C A σ (eval iter env) (fun xv σ₁ => T prog w C A σ₁ (pyIter xv) (fun it σ₂ => CompT prog w C A σ₂ env (two elt (.Name x px) iter target2 iter2 ifs ifs2 scope pos) scope cl (newList []) none Q E it) E) E)
    (hs : ∀ x, foldedSetIterable iter env x = Pure.pure x := by intro _; rfl) : T prog w C A σ (eval (.ListComp elt [⟨.Name x px, iter, ifs, 0⟩, ⟨target2, iter2, ifs2, 0⟩] scope pos) env) Q E := by
  rw [arm_eval_ListComp]
  exact wpAny_comp_free rfl hs hclos hkind hnames h
noncomputable def catV (v : Str) : Value → Value | .str c _ => .str (v ++ c) 0 | v => v
theorem flat_words {n : Nat} {ws : List Str} : flat ws (fun v => v.length == n) (fun _ => [Value.str (Str.ofString "a") 0, .str (Str.ofString "b") 0]) catV = txts (ws.flatMap fun v => if v.length == n then [wa v, wb v] else []) := by
  unfold flat
  induction ws with
  | nil => rfl
  | cons a r ih =>
    rw [List.flatMap_cons, List.flatMap_cons, ih]
    unfold txts
    rw [List.map_append]
    congr 1
    split <;> rfl
theorem TC.drop {c : Code} {R : Result → Led → Prop} {σ' : Led} (h : TC prog w C A σ' c R) (hs : σ'.Sublist σ) : TC prog w C A σ c R := fun s S => h s (S.sub hs)
theorem er_int {v : Value} {i : Int} (h : er v = .int i 0) : ∃ t, v = .int i t := by
  cases v <;> simp_all [er]
theorem drop_range {v : Value} {r : List Value} {i : Nat} (h : v :: r = ((List.range 3).map fun (k : Nat) => Value.int (0 + 1 * (k : Int)) 0).drop i) : i < 3 ∧ v = .int i 0 ∧ r = ((List.range 3).map fun (k : Nat) => Value.int (0 + 1 * (k : Int)) 0).drop (i + 1) := by
  have hi : i < 3 := by
    rcases Nat.lt_or_ge i 3 with h' | h'
    · exact h'
    · rw [List.drop_of_length_le (by simpa using h')] at h; cases h
  rcases i with _ | _ | _ | i
  · injection h with h1 h2; exact ⟨by decide, h1, h2⟩
  · injection h with h1 h2; exact ⟨by decide, h1, h2⟩
  · injection h with h1 h2; exact ⟨by decide, h1, h2⟩
  · wtm_at "om"
theorem itsAB2 {it : Addr} {t : Tok} (hh : A.handled = none) : Its C prog w A it (sitr (Str.ofString "ab") t) [Value.str (Str.ofString "a") 0, .str (Str.ofString "b") 0] (fun _ => True) := by
  have := itsS (C := C) (prog := prog) (w := w) (A := A) (x := Str.ofString "ab") (it := it) (t := t) hh
  rw [ab_list] at this
  exact this
theorem T_words {Q : Value → Led → Prop} (hK : C.K = KK w.params) (R : Rm 4 A) (h : ∀ D, Q (.ref D) ((D, .lst (txts (Wn 3))) :: σ)) : T prog w C A σ (call (.ref 234) []) Q E := by
  refine T_callTC ?_
  refine' T_callG (m := []) (binds := []) (fun L => [(Str.ofString "size", L + 1)]) (fun L => [(L + 1, .cel none)]) R.room (ho := ?ho) (hcd := ?hcd) (hbind := ?hb) (hloc := ?hloc) (hm := ?hm) (hcells := ?hc1) (hcv := ?hc2) (hnd := ?hc3) (hnd2 := ?hc4) (h := ?h) (hco := ?hco) (hgen := ?hgen) (hk := ?hk)
  case ho => rw [hK]; exact lookup_KK rfl rfl
  case hcd => wtm_at "r_k"
  case hb => exact fun s X => kp_binds (K := KK w.params) (hK ▸ X) fun S => by kernel_rfl!
  case hloc => kernel_rfl
  case hm => exact rfl
  case hco => rfl
  case hgen => rfl
  case hk => rfl
  case hc1 => exact fun L => rfl
  case hc2 => exact fun L => rfl
  case hc3 => decide
  case hc4 => exact fun L => rfl
  intro L
  dsimp only [List.cons_append, List.nil_append]
  wtm_at "t_go"
  refine T_range rfl fun r => ?_
  wtm_at "t_go"
  refine T_iterR (n := 3) (.head _) (by decide) fun it => ?_
  rename_i D0 _
  refine TC.drop (σ' := (it, ritr 0 1 3 0) :: (D0, .lst (txts (Wn 0))) :: (L, .ns [(Str.ofString "words", .ref D0)]) :: (L + 1, .cel none) :: σ) ?_ ((List.sublist_cons_self _ _).cons_cons _)
  refine T_forIt (itsR (n := 3) R.hand) (fun rr τ => ∃ i, i ≤ 3 ∧ rr = ((List.range 3).map fun (k : Nat) => Value.int (0 + 1 * (k : Int)) 0).drop i ∧ ∃ D m c, m.lookup (Str.ofString "words") = some (.ref D) ∧ τ = (D, .lst (txts (Wn i))) :: (L, .ns m) :: (L + 1, .cel c) :: σ) ⟨0, by decide, rfl, D0, _, _, rfl, rfl⟩ (fun _ _ _ => trivial) ?_ ?_
  · rintro v rr τ j ⟨i, hi, hr, D, m, c, hm, rfl⟩
    obtain ⟨hi3, hv, rfl⟩ := drop_range hr
    obtain ⟨tv, rfl⟩ := er_int hv
    have hW := Wn_short i hi
    wtm_at "t_go"
    refine' T_LC2 _ ?lc1 ?lc2 ?lc3 ?_ ?lc5
    case lc1 => exact rfl
    case lc2 => exact rfl
    case lc3 => decide
    case lc5 => intro _; rfl
    wtm_at "t_go"
    refine T_iterL (.tail _ (.head _)) fun it2 => ?_
    refine T_two (Wn i) (fun z => .str z 0) (fun v => v.length == i) (fun _ => [Value.str (Str.ofString "a") 0, .str (Str.ofString "b") 0]) catV (itsL (l := D) R.hand) (.tail _ (.head _)) ?_ rfl rfl rfl (by decide) (by decide) ?_ ?_
    · rw [flat_words]
      have := (Wn_short (i + 1) hi3).2
      unfold Wn stepW at this
      rw [List.length_append] at this
      unfold txts
      rw [List.length_map]
      wtm_at "om"
    · intro D2 L2 b ys i2 m2 hb
      have hb3 := hW.1 b hb
      have hb6 : b.length ≤ 1000000 := by wtm_at "om"
      wtm_at "t_go"
      by_cases e : b.length = i
      · refine ifT (by rw [e]; simp) ?_
        wtm_at "t_go"
        refine ⟨by rw [e]; simp, ?_⟩
        rw [if_pos rfl]
        wtm_at "t_go"
        refine T_iterS (by decide +kernel) fun it3 => ?_
        refine ⟨it3, _, fun _ => True, _, rfl, itsAB2 R.hand, fun _ _ => trivial, List.Sublist.refl _, fun _ S => S, fun z ys' m' j' hz hm' => ?_⟩
        have hm2 : List.lookup (Str.ofString "word") ((Str.ofString "letter", z) :: m') = some (.str b 0) := by
          rw [List.lookup_cons]; exact hm'
        rcases List.mem_cons.mp hz with rfl | hz
        · wtm_at "t_go"
          refine T_addS (by show _ + 1 ≤ _; wtm_at "om") fun _ => ?_
          exact ⟨rfl, List.Sublist.refl _⟩
        · rw [List.mem_singleton.mp hz] at hm2 ⊢
          wtm_at "t_go"
          refine T_addS (by show _ + 1 ≤ _; wtm_at "om") fun _ => ?_
          exact ⟨rfl, List.Sublist.refl _⟩
      · refine ifF (by rw [beq_eq_false_iff_ne]; wtm_at "om") ?_
        refine ⟨by simpa using e, ?_⟩
        rw [if_neg Bool.false_ne_true]
        exact List.Sublist.refl _
    · rw [flat_words]
      intro D2
      wtm_at "t_go"
      have hl := (Wn_short (i + 1) hi3).2
      have e : Wn (i + 1) = Wn i ++ (Wn i).flatMap fun v => if v.length == i then [wa v, wb v] else [] := rfl
      rw [e, List.length_append] at hl
      refine T_addL (.tail _ (.tail _ (.head _))) (.head _) (by unfold txts; rw [List.length_map, List.length_map]; wtm_at "om") fun D3 => ?_
      refine T.perm ?_ ((List.Perm.cons _ (List.Perm.swap _ _ _)).trans (List.Perm.swap _ _ _))
      wtm_at "t_go"
      have e2 : txts (Wn (i + 1)) = txts (Wn i) ++ txts ((Wn i).flatMap fun v => if v.length == i then [wa v, wb v] else []) := by rw [e]; exact List.map_append
      refine ⟨(D3, .lst (txts (Wn (i + 1)))) :: (L, .ns ((Str.ofString "words", .ref D3) :: m)) :: (L + 1, .cel (some (.int i 0))) :: σ, ⟨i + 1, hi3, rfl, D3, _, _, rfl, rfl⟩, ?_⟩
      rw [e2]
      exact ((((List.Sublist.refl _).cons _).cons _).cons_cons _).cons_cons _
  · rintro τ ⟨i, hi, hr, D, m, c, hm, rfl⟩
    have : i = 3 := by
      rcases Nat.lt_or_ge i 3 with h' | h'
      · have := congrArg List.length hr
        rw [List.length_drop, List.length_map, List.length_range, List.length_nil] at this
        wtm_at "om"
      · wtm_at "om"
    subst this
    wtm_at "t_go"
    refine ⟨_, ?_, h D⟩
    exact List.Sublist.cons_cons _ ((List.sublist_cons_self _ _).trans (List.sublist_cons_self _ _))
end
set_option maxHeartbeats 1000000
theorem perm11 {α : Type} (a b c d e f g h i j k : α) (r : List α) : (a :: b :: c :: d :: e :: f :: g :: h :: i :: j :: k :: r).Perm (h :: i :: j :: k :: g :: f :: c :: d :: e :: b :: a :: r) := by
  classical
  refine List.perm_iff_count.mpr fun z => ?_
  simp only [List.count_cons]
  ac_rfl
section
variable {prog : Program} {w : World} {C : Cx} {A : Around} {σ ρ : Led} {E : Value → Led → Prop} {Q : Value → Led → Prop}
theorem T_record {l : Addr} {ags : List Str} (hK : C.K = KK w.params) (R : Rm 5 A) (hl : (l, .lst (txts ags)) ∈ σ) (hz : ags.length ≤ 1000)
    (hQ : ∀ x d u r, Q (.ref x) ((r, .lst []) :: (u, .lst (txts ags)) :: (x, .ins 76 d) :: (d, .idc (entryF u r)) :: σ)) :
    T prog w C A σ (call (.ref 224) [.ref l]) Q E := fun _ S => law_record hK S R hl hz fun x d u r _ S' => ⟨_, hQ x d u r, S'⟩
theorem T_newWriter {wa wl el : Addr} {ex ws : List Str} (hK : C.K = KK w.params) (R : Rm 4 A) (he : (el, .lst (txts ex)) ∈ ρ) (hn : ex ≠ []) (hz : ex.length ≤ 1000)
    (hQ : ∀ p : WS, p.wa = wa → p.wl = wl → p.ws = ws → p.ds = [] → p.nl = [] → p.nsl.length = 2 → p.k = 0 → p.seen = false → p.ign = 0 → (p.P = fun y => ex.any fun z => decide (y = z)) → p.n ≤ ex.length → Q (.ref p.x) (p.led prog w ++ ρ)) :
    T prog w C A ((wa, .raw (bndO "list.append" (.ref wl))) :: (wl, .lst (txts ws)) :: ρ) (call (.ref 199) [.ref wa] [(Str.ofString "exclude_tags", .ref el)]) Q E := fun s S => by
  refine newWriter hK S R (.tail _ (.tail _ he)) hn hz fun x d da et n t dl de ns D n1 pm ps s' hle S' => ?_
  have S₂ := (S'.sub ((List.sublist_cons_self _ _).cons_cons _)).perm (perm11 _ _ _ _ _ _ _ _ _ _ _ ρ)
  exact ⟨_, hQ { x := x, d := d, wa := wa, wl := wl, da := da, et := et, de := de, dl := dl, tt := t, ns := ns, pm := pm, ps := ps, P := fun y => ex.any fun z => decide (y = z), n := n, nl := [], nsl := [.ref D, .ref n1], k := 0, seen := false, dn := false, ign := 0, ds := [], ws := ws } rfl rfl rfl rfl rfl rfl rfl rfl rfl rfl hle, S₂⟩
end
set_option maxHeartbeats 1000000
noncomputable def cat (ws : List Str) : List Nat := ws.flatMap fun z => z.cps.toList
theorem cat_append {a b : List Str} : cat (a ++ b) = cat a ++ cat b := List.flatMap_append
theorem cps_append {a b : Str} : (a ++ b).cps.toList = a.cps.toList ++ b.cps.toList := Array.toList_append
theorem glued_cat {g : Str} (hg : g.cps.toList = []) : ∀ ws : List Str, (Builtin.Str.glued g ws).cps.toList = cat ws := by
  have hg' : g.cps = #[] := by rw [← Array.toList_inj, hg]
  have key : ∀ (r : List Str) (acc : Array Nat), (r.foldl (fun acc p => acc ++ g.cps ++ p.cps) acc).toList = acc.toList ++ cat r := by
    intro r
    induction r with
    | nil => intro acc; simp [cat]
    | cons x r ih =>
      intro acc
      rw [List.foldl_cons, ih, hg']
      simp [cat]
  intro ws
  cases ws with
  | nil => rfl
  | cons x r => exact (key r x.cps).trans (by simp [cat])
noncomputable def ampS (ds : List Str) : List Nat := if ds.isEmpty then [] else (ampE ds).cps.toList
noncomputable def amp1 : List Nat := (Str.ofString " &amp; ").cps.toList
theorem ampS_snoc {ds : List Str} (h : ds = [] ∨ ds = [amp]) : ampS (ds ++ [amp]) = ampS ds ++ amp1 := by
  rcases h with rfl | rfl <;> decide +kernel
theorem cat_flush {ds ws : List Str} : cat (flushP ds ws) = cat ws ++ ampS ds := by
  unfold flushP ampS
  split
  · simp
  · rw [cat_append]; simp [cat]
theorem cat_open {word : Str} {ds ws : List Str} : cat (openP word ds ws) = cat ws ++ ampS ds ++ ((Str.ofString "<_" ++ word ++ Str.ofString "_>").cps.toList) := by
  unfold openP
  rw [cat_append, cat_flush]
  have e1 : (Str.ofString "<_").cps.toList = (Str.ofString "<").cps.toList ++ (Str.ofString "_").cps.toList := by decide +kernel
  have e2 : (Str.ofString "_>").cps.toList = (Str.ofString "_").cps.toList ++ (Str.ofString ">").cps.toList := by decide +kernel
  unfold tagOf
  simp only [cat, List.flatMap_cons, List.flatMap_nil, cps_append, e1, e2, List.append_assoc, List.append_nil]
theorem cat_close {word : Str} {ds ws : List Str} : cat (closeP word ds ws) = cat ws ++ ampS ds ++ ((Str.ofString "</_" ++ word ++ Str.ofString "_>").cps.toList) := by
  unfold closeP
  rw [cat_append, cat_flush]
  have e1 : (Str.ofString "</_").cps.toList = (Str.ofString "</").cps.toList ++ (Str.ofString "_").cps.toList := by decide +kernel
  have e2 : (Str.ofString "_>").cps.toList = (Str.ofString "_").cps.toList ++ (Str.ofString ">").cps.toList := by decide +kernel
  unfold tagOf
  simp only [cat, List.flatMap_cons, List.flatMap_nil, cps_append, e1, e2, List.append_assoc, List.append_nil]
theorem page_cat {word : Str} {pages : List Str} : (pageS word pages).cps.toList = (Str.ofString "<_" ++ word ++ Str.ofString "_>").cps.toList ++ cat (pages.map fun z => Str.ofString " &amp; " ++ z) ++ (Str.ofString "</_" ++ word ++ Str.ofString "_>").cps.toList := by
  unfold pageS pageJ
  have := glued_cat (g := Str.empty) rfl (pages.map fun z => Str.ofString " &amp; " ++ z)
  simp only [cps_append, this, List.append_assoc]
noncomputable def Agree (P H : Str → Bool) : Nat → Str → Prop
  | 0, v => P (tagOf v) = H v
  | f + 1, v => P (tagOf v) = H v ∧ (H v = false → Agree P H f (wa v) ∧ Agree P H f (wb v))
theorem tell_page {P H : Str → Bool} {f : Nat} : ∀ {word : Str} {ds ws : List Str}, DsOk ds → Agree P H f word →
    cat (tellP P f word ds ws).2 ++ ampS (tellP P f word ds ws).1 = cat ws ++ ampS ds ++ (pageP H f word).cps.toList := by
  induction f with
  | zero =>
    intro word ds ws hd hv
    have h0 : P (tagOf word) = H word := hv
    unfold tellP pageP
    rw [h0]
    cases H word with
    | true => simp; rfl
    | false =>
      simp only [Bool.false_eq_true, if_false]
      rw [cat_close, cat_open, page_cat]
      simp [ampS, cat]
  | succ f ih =>
    intro word ds ws hd hv
    obtain ⟨h0, hv⟩ := hv
    rw [tellP_succ]
    unfold pageP
    rw [h0]
    cases hH : H word with
    | true => simp; rfl
    | false =>
      obtain ⟨va, vb⟩ := hv hH
      have ha := @ih (wa word) [amp] (openP word ds ws) (.inr (.inl rfl)) va
      have d1 : (tellP P f (wa word) [amp] (openP word ds ws)).1 = [amp] ∨ (tellP P f (wa word) [amp] (openP word ds ws)).1 = [] := tellP_ds
      have hb := @ih (wb word) ((tellP P f (wa word) [amp] (openP word ds ws)).1 ++ [amp]) (tellP P f (wa word) [amp] (openP word ds ws)).2 (dsok_of d1) vb
      simp only [Bool.false_eq_true, if_false]
      rw [ampS_snoc (d1.symm), ← List.append_assoc, ha, cat_open] at hb
      rw [cat_close, hb, page_cat]
      have e : ampS [amp] = amp1 := by decide +kernel
      have en : ampS [] = [] := rfl
      simp only [e, en, cat, amp1, List.map_cons, List.map_nil, List.flatMap_cons, List.flatMap_nil, cps_append, List.append_assoc, List.append_nil]
theorem text_is_page {P H : Str → Bool} {f : Nat} {word : Str} (h : Agree P H f word) : Builtin.Str.glued (Str.ofString "") (tellP P f word [] []).2 = pageP H f word := by
  have := tell_page (ds := []) (ws := []) (.inl rfl) h
  have e : (tellP P f word [] []).1 = [] := by rcases @tellP_ds P f word [] [] with e | e <;> exact e
  have en : ampS [] = [] := rfl
  rw [e, en, List.append_nil] at this
  have h2 := (glued_cat (g := Str.ofString "") rfl (tellP P f word [] []).2).trans this
  have h3 : (Builtin.Str.glued (Str.ofString "") (tellP P f word [] []).2).cps = (pageP H f word).cps := Array.toList_inj.mp (h2.trans (by simp [cat]))
  exact congrArg Str.mk h3
set_option maxHeartbeats 1000000
set_option maxHeartbeats 1000000
noncomputable def endsW (v s : Str) : Bool := Txt.endswith v s
noncomputable def infW (v s : Str) : Bool := Txt.contains (asked (askU v)) s
noncomputable def SA : List Str := (subW 3 (Str.ofString "")).filter fun v => !(v.length == 0)
noncomputable def okAt (S : List Str) (v : Str) : Bool := S.all fun s => !endsW v s || infW v s
noncomputable def okTo (S : List Str) (v c : Str) : Bool := S.all fun s => !infW c s || (endsW c s || infW v s)
noncomputable def Clo (S : List Str) : Nat → Str → Bool
  | 0, v => okAt S v
  | f + 1, v => okAt S v && (okTo S v (wa v) && (okTo S v (wb v) && (Clo S f (wa v) && Clo S f (wb v))))
theorem clo_SA : Clo SA 3 (Str.ofString "") = true := by decide +kernel
theorem root_SA : (SA.all fun s => !infW (Str.ofString "") s && !endsW (Str.ofString "") s) = true := by decide +kernel
theorem agree_clo {P H : Str → Bool} {S : List Str} (hS : ∀ s ∈ S, s ∈ SA) {f : Nat} : ∀ {word : Str}, Clo SA f word = true → (∀ v ∈ subW f word, P (tagOf v) = S.any (endsW v)) → (∀ v ∈ subW f word, H v = S.any (infW v)) →
    P (tagOf word) = H word → Agree P H f word := by
  induction f with
  | zero => intro word _ _ _ h0; exact h0
  | succ f ih =>
    intro word hc hP hH h0
    have hsa : ∀ v, v ∈ subW f (wa word) → v ∈ subW (f + 1) word := fun v h => .tail _ (List.mem_append_left _ h)
    have hsb : ∀ v, v ∈ subW f (wb word) → v ∈ subW (f + 1) word := fun v h => .tail _ (List.mem_append_right _ h)
    unfold Clo at hc
    simp only [Bool.and_eq_true] at hc
    obtain ⟨_, ha, hb, ca, cb⟩ := hc
    have at_ : ∀ c, Clo SA f c = true → okAt SA c = true := fun c h => by
      cases f with
      | zero => exact h
      | succ f => unfold Clo at h; simp only [Bool.and_eq_true] at h; exact h.1
    refine ⟨h0, fun hH0 => ?_⟩
    have hno : ∀ s ∈ S, infW word s = false := by
      intro s hs
      rw [hH word subW_self, List.any_eq_false] at hH0
      simpa using hH0 s hs
    have step : ∀ c, c ∈ subW (f + 1) word → okAt SA c = true → okTo SA word c = true → P (tagOf c) = H c := by
      intro c hc h1 h2
      rw [hP c hc, hH c hc, Bool.eq_iff_iff, List.any_eq_true, List.any_eq_true]
      constructor
      · rintro ⟨s, hs, he⟩
        have := List.all_eq_true.mp h1 s (hS s hs)
        rw [he] at this
        exact ⟨s, hs, by simpa using this⟩
      · rintro ⟨s, hs, he⟩
        have := List.all_eq_true.mp h2 s (hS s hs)
        rw [he, hno s hs] at this
        exact ⟨s, hs, by simpa using this⟩
    exact ⟨ih ca (fun v hv => hP v (hsa v hv)) (fun v hv => hH v (hsa v hv)) (step _ (hsa _ subW_self) (at_ _ ca) ha),
      ih cb (fun v hv => hP v (hsb v hv)) (fun v hv => hH v (hsb v hv)) (step _ (hsb _ subW_self) (at_ _ cb) hb)⟩
theorem agree_root {P H : Str → Bool} {S : List Str} (hS : ∀ s ∈ S, s ∈ SA) (hP : ∀ v ∈ subW 3 (Str.ofString ""), P (tagOf v) = S.any (endsW v)) (hH : ∀ v ∈ subW 3 (Str.ofString ""), H v = S.any (infW v)) : Agree P H 3 (Str.ofString "") := by
  refine agree_clo hS clo_SA hP hH ?_
  rw [hP _ subW_self, hH _ subW_self]
  have h : ∀ s ∈ S, infW (Str.ofString "") s = false ∧ endsW (Str.ofString "") s = false := fun s hs => by
    have := List.all_eq_true.mp root_SA s (hS s hs)
    simpa using this
  rw [List.any_eq_false.mpr fun s hs => by rw [(h s hs).2]; decide, List.any_eq_false.mpr fun s hs => by rw [(h s hs).1]; decide]
set_option maxHeartbeats 1000000
theorem hits_star {u : Str} : hits u (Str.ofString "*") = false := by unfold hits; simp
theorem hits_ne {u a : Str} (h : a.cps.toList ≠ (Str.ofString "*").cps.toList) : hits u a = Txt.contains u (Txt.lower a) := by
  unfold hits
  have : (a.cps.toList != (Str.ofString "*").cps.toList) = true := by simpa [bne] using h
  rw [this, Bool.true_and]
theorem any_hits {u : Str} {l : List Str} (h : ∀ a ∈ l, a.cps.toList ≠ (Str.ofString "*").cps.toList) : l.any (hits u) = (l.map Txt.lower).any (Txt.contains u) := by
  induction l with
  | nil => rfl
  | cons a r ih => rw [List.any_cons, List.map_cons, List.any_cons, ih (fun b hb => h b (.tail _ hb)), hits_ne (h a (.head _))]
theorem pgH_small {l₁ l₂ : List Str} {v : Str} (h₁ : ∀ a ∈ l₁, a.cps.toList ≠ (Str.ofString "*").cps.toList) (h₂ : ∀ a ∈ l₂, a.cps.toList ≠ (Str.ofString "*").cps.toList) :
    pgH (l₁ ++ [Str.ofString "*"] ++ l₂) v = ((l₁ ++ l₂).map Txt.lower).any (infW v) := by
  unfold pgH
  rw [List.any_append, List.any_append, List.any_cons, List.any_nil, hits_star, any_hits h₁, any_hits h₂, List.map_append, List.any_append]
  simp only [Bool.or_false]
  rfl
set_option maxHeartbeats 1000000
theorem tag_inj : ∀ v ∈ Wn 3, ∀ u ∈ Wn 3, tagOf v = tagOf u → v = u := by
  have : ((Wn 3).all fun v => (Wn 3).all fun u => decide (tagOf v = tagOf u → v = u)) = true := by decide +kernel
  intro v hv u hu
  exact of_decide_eq_true (List.all_eq_true.mp (List.all_eq_true.mp this v hv) u hu)
theorem tag_other : ∀ v ∈ Wn 3, ∀ u ∈ Wn 3, tagOf v ≠ u ∧ tagOf v ≠ Str.ofString "_" ++ u ∧ tagOf v ≠ u ++ Str.ofString "_" := by
  have : ((Wn 3).all fun v => (Wn 3).all fun u => decide (tagOf v ≠ u ∧ tagOf v ≠ Str.ofString "_" ++ u ∧ tagOf v ≠ u ++ Str.ofString "_")) = true := by decide +kernel
  intro v hv u hu
  exact of_decide_eq_true (List.all_eq_true.mp (List.all_eq_true.mp this v hv) u hu)
theorem sub_words : ∀ v ∈ subW 3 (Str.ofString ""), v ∈ Wn 3 := by
  have : ((subW 3 (Str.ofString "")).all fun v => decide (v ∈ Wn 3)) = true := by decide +kernel
  intro v hv
  exact of_decide_eq_true (List.all_eq_true.mp this v hv)
noncomputable def exOf (q : Str → Bool) : List Str := ((Wn 3).filter q).map tagOf ++ (((Wn 3).drop 1).filter fun u => !q u).flatMap fun u => [u, Str.ofString "_" ++ u, u ++ Str.ofString "_"]
theorem exOf_tag {q : Str → Bool} {v : Str} (hv : v ∈ Wn 3) : ((exOf q).any fun z => decide (tagOf v = z)) = q v := by
  unfold exOf
  rw [List.any_append]
  have h2 : ((((Wn 3).drop 1).filter fun u => !q u).flatMap fun u => [u, Str.ofString "_" ++ u, u ++ Str.ofString "_"]).any (fun z => decide (tagOf v = z)) = false := by
    rw [List.any_eq_false]
    intro z hz
    obtain ⟨u, hu, hz⟩ := List.mem_flatMap.mp hz
    have hu' : u ∈ Wn 3 := List.mem_of_mem_drop (List.mem_filter.mp hu).1
    have := tag_other v hv u hu'
    simp only [List.mem_cons, List.not_mem_nil, or_false] at hz
    rcases hz with rfl | rfl | rfl <;> simp [this]
  rw [h2, Bool.or_false, Bool.eq_iff_iff, List.any_eq_true]
  constructor
  · rintro ⟨z, hz, he⟩
    obtain ⟨u, hu, rfl⟩ := List.mem_map.mp hz
    obtain ⟨hu, hq⟩ := List.mem_filter.mp hu
    rw [tag_inj v hv u hu (of_decide_eq_true he)]
    exact hq
  · intro hq
    exact ⟨tagOf v, List.mem_map.mpr ⟨v, List.mem_filter.mpr ⟨hv, hq⟩, rfl⟩, decide_eq_true rfl⟩
theorem law_text {l₁ l₂ : List Str} (h₁ : ∀ a ∈ l₁, a.cps.toList ≠ (Str.ofString "*").cps.toList) (h₂ : ∀ a ∈ l₂, a.cps.toList ≠ (Str.ofString "*").cps.toList) (hS : ∀ s ∈ (l₁ ++ l₂).map Txt.lower, s ∈ SA) :
    Builtin.Str.glued (Str.ofString "") (tellP (fun y => (exOf fun v => ((l₁ ++ l₂).map Txt.lower).any (endsW v)).any fun z => decide (y = z)) 3 (Str.ofString "") [] []).2 = pageP (pgH (l₁ ++ [Str.ofString "*"] ++ l₂)) 3 (Str.ofString "") :=
  text_is_page (agree_root hS (fun v hv => exOf_tag (sub_words v hv)) fun v _ => pgH_small h₁ h₂)
set_option maxHeartbeats 1000000
theorem small1 : ∀ a, a < 4 → Txt.lower (Builtin.Str.glued (Str.ofString "") [letterOf a]) ∈ SA := by decide +kernel
theorem small2 : ∀ a, a < 4 → ∀ b, b < 4 → Txt.lower (Builtin.Str.glued (Str.ofString "") [letterOf a, letterOf b]) ∈ SA := by decide +kernel
theorem small3 : ∀ a, a < 4 → ∀ b, b < 4 → ∀ c, c < 4 → Txt.lower (Builtin.Str.glued (Str.ofString "") [letterOf a, letterOf b, letterOf c]) ∈ SA := by decide +kernel
theorem spell_SA {n size : Nat} (h1 : 1 ≤ size) (h3 : size ≤ 3) : Txt.lower (spellP n size) ∈ SA := by
  have h : ∀ k, n / 10 ^ k % 10 % 4 < 4 := fun k => Nat.mod_lt _ (by decide)
  have : size = 1 ∨ size = 2 ∨ size = 3 := by wtm_at "om"
  rcases this with rfl | rfl | rfl
  · exact small1 _ (h 0)
  · exact small2 _ (h 0) _ (h 1)
  · exact small3 _ (h 0) _ (h 1) _ (h 2)
theorem spell_star {n size : Nat} (h1 : 1 ≤ size) (h3 : size ≤ 3) : (spellP n size).cps.toList ≠ (Str.ofString "*").cps.toList := by
  intro e
  have h := spell_SA (n := n) h1 h3
  have e2 : spellP n size = Str.ofString "*" := by
    have := Array.toList_inj.mp e
    exact congrArg Str.mk this
  rw [e2] at h
  exact absurd h (by decide +kernel)
set_option maxHeartbeats 1000000
noncomputable def pick (xs : List Value) (lo hi st : Option Int) : List Value := (slicePick xs.toArray lo hi st).toList
theorem pick_er {items : Array Value} {lo hi st : Option Int} : (slicePick items lo hi st).toList.map er = pick (items.toList.map er) lo hi st := by
  unfold pick slicePick
  simp only [List.size_toArray, List.length_map, Array.length_toList, List.map_filterMap]
  congr 1
  funext i
  simp
section
variable {prog : Program} {w : World} {C : Cx} {A : Around} {σ : Led} {E : Value → Led → Prop} {env : Env}
end
set_option maxHeartbeats 400000
theorem slot_md_get : Slot "method_descriptor" "__get__" "method_descriptor.__get__" :=
  .of (owner := "method_descriptor") (n := "__get__") (by rw [typeLookup_type, builtinLookup_eq_fast]; kernel_rfl) (by decide +kernel) (by decide +kernel) (by decide +kernel)
    (by first | exact .inl (by decide +kernel) | exact .inr (by decide +kernel)) (by rw [isSubtype_type]; kernel_rfl)
theorem tl_md_set : typeLookup (.type "method_descriptor") "__set__" = pure none := by rw [typeLookup_type, builtinLookup_eq_fast]; kernel_rfl
theorem tl_md_del : typeLookup (.type "method_descriptor") "__delete__" = pure none := by rw [typeLookup_type, builtinLookup_eq_fast]; kernel_rfl
theorem entry_md_get : entryFor table "method_descriptor.__get__" = some Builtin.«method_descriptor.__get__» := entryFor_of_tree (by kernel_rfl)
theorem args_md_get (a b c : Value) : argsOk "method_descriptor.__get__" ⟨[a, b, c], []⟩ := by unfold argsOk; kernel_rfl
theorem tl_append : typeLookup (.type "list") (Str.ofString "append") = pure (some (.builtin "list.append")) := by rw [typeLookup_type, builtinLookup_eq_fast]; kernel_rfl
theorem ty_append : typeOf (.builtin "list.append") = pure (.type "method_descriptor") := by kernel_rfl
theorem own_append : (".".intercalate ("list.append".cutAt '.').dropLast) = "list" := by
  have e0 : "list.append".cutAt '.' = ["list", "append"] := by first | rfl | decide +kernel
  rw [e0]; decide +kernel
theorem sub_append : isSubtype (.type "list") (.type (".".intercalate ("list.append".cutAt '.').dropLast)) = pure true := by
  rw [own_append, isSubtype_type]; kernel_rfl
section
variable {prog : Program} {w : World} {A : Around} {E : Value → Shared → Prop} {h : Heap} {g : Array GenState} {d : Drawn} {t : Nat} {os : OsState} {a : Addr} {o : Obj}
theorem md_get_append {R : Result → Shared → Prop} (hx : h.get? a = some o) (hc : o.cls = .type "list") (hq : R (.ok (.ret (.ref h.objs.size))) ⟨h.push (bndO "list.append" (.ref a)), g, d, t, os⟩) :
    codeAny (model prog w) A (.call (.builtin "method_descriptor.__get__") ⟨[.builtin "list.append", .ref a, .type "list"], []⟩) R ⟨h, g, d, t, os⟩ := by
  have hT : (⟨h, g, d, t, os⟩ : Shared).TypeIs (.ref a) "list" := ⟨_, hx, hc⟩
  have hT5 : (⟨h, g, d, t, os⟩ : Shared).TypeIs (.builtin "list.append") "method_descriptor" := ty_append
  have f8 := sub_append
  have ht : Manifest.toldItsClass.contains "list.append" = true ∨ Manifest.toldItsClass.contains "list.append" = false := by cases Manifest.toldItsClass.contains "list.append" <;> simp
  refine codeAny_call_builtin slot_md_get.plain entry_md_get (slot_md_get.check _ _ _ _ _ _ _ _ hT5 (args_md_get _ _ _) ?_)
  repeat (any_goals (first | assumption | wp_step))
theorem ga_append {u : Tok} {Q : Fin → Shared → Prop} {xs : Array Value} {k : Nat} (hx : h.get? a = some { cls := .type "list", data := .seq xs k }) (hq : Q (.done (.ret (.ref h.objs.size))) ⟨h.push (bndO "list.append" (.ref a)), g, d, t, os⟩) :
    wpAny (model prog w) A (Builtin.«object.__getattribute__» ⟨[.ref a, .str (Str.ofString "append") u], []⟩) Q E ⟨h, g, d, t, os⟩ := by
  have hT : (⟨h, g, d, t, os⟩ : Shared).TypeIs (.ref a) "list" := ⟨_, hx, rfl⟩
  have f4 := tl_append
  have f5 := ty_append
  have f6 := slot_md_get.lookup
  have f7 := tl_md_set
  have f8 := tl_md_del
  repeat (any_goals (first | assumption | wp_step))
  refine md_get_append hx rfl ?_
  repeat (any_goals (first | assumption | wp_step))
theorem get_append {xs : Array Value} {k : Nat} {Q : Value → Shared → Prop} (hx : h.get? a = some { cls := .type "list", data := .seq xs k }) (hq : Q (.ref h.objs.size) ⟨h.push (bndO "list.append" (.ref a)), g, d, t + 1, os⟩) :
    wpAny (model prog w) A (getAttr (.ref a) (Str.ofString "append") true) Q E ⟨h, g, d, t, os⟩ := by
  have hT : ∀ tk', (⟨h, g, d, tk', os⟩ : Shared).TypeIs (.ref a) "list" := fun _ => ⟨_, hx, rfl⟩
  have f3 := F.slot_list_getattribute.lookup
  have f4 := F.slot_list_getattribute.bind (.ref a)
  unfold getAttr getAttrBy
  repeat (any_goals (first | assumption | exact hT _ | ((with_reducible show wpAny _ _ (call (Value.builtin "list.__getattribute__") _ _) _ _ _); refine wpAny_call (codeAny_call_builtin F.slot_list_getattribute.plain F.entry_list_ga (F.slot_list_getattribute.check _ _ _ _ _ _ _ _ (hT _) (F.args_list_getattribute_2 _ _) (ga_append hx ?_)))) | wp_step))
end
set_option maxHeartbeats 400000
theorem tl_contains : typeLookup (.type "set") "__contains__" = pure (some (.builtin "set.__contains__")) := by rw [typeLookup_type, builtinLookup_eq_fast]; kernel_rfl
theorem ty_contains : typeOf (.builtin "set.__contains__") = pure (.type "method_descriptor") := by kernel_rfl
theorem own_contains : (".".intercalate ("set.__contains__".cutAt '.').dropLast) = "set" := by
  have e0 : "set.__contains__".cutAt '.' = ["set", "__contains__"] := by first | rfl | decide +kernel
  rw [e0]; decide +kernel
theorem sub_contains : isSubtype (.type "set") (.type (".".intercalate ("set.__contains__".cutAt '.').dropLast)) = pure true := by
  rw [own_contains, isSubtype_type]; kernel_rfl
section
variable {prog : Program} {w : World} {A : Around} {E : Value → Shared → Prop} {h : Heap} {g : Array GenState} {d : Drawn} {t : Nat} {os : OsState} {a : Addr} {o : Obj}
theorem md_get_contains {R : Result → Shared → Prop} (hx : h.get? a = some o) (hc : o.cls = .type "set") (hq : R (.ok (.ret (.ref h.objs.size))) ⟨h.push (bndO "set.__contains__" (.ref a)), g, d, t, os⟩) :
    codeAny (model prog w) A (.call (.builtin "method_descriptor.__get__") ⟨[.builtin "set.__contains__", .ref a, .type "set"], []⟩) R ⟨h, g, d, t, os⟩ := by
  have hT : (⟨h, g, d, t, os⟩ : Shared).TypeIs (.ref a) "set" := ⟨_, hx, hc⟩
  have hT5 : (⟨h, g, d, t, os⟩ : Shared).TypeIs (.builtin "set.__contains__") "method_descriptor" := ty_contains
  have f8 := sub_contains
  have ht : Manifest.toldItsClass.contains "set.__contains__" = true ∨ Manifest.toldItsClass.contains "set.__contains__" = false := by cases Manifest.toldItsClass.contains "set.__contains__" <;> simp
  refine codeAny_call_builtin slot_md_get.plain entry_md_get (slot_md_get.check _ _ _ _ _ _ _ _ hT5 (args_md_get _ _ _) ?_)
  repeat (any_goals (first | assumption | wp_step))
theorem ga_contains {u : Tok} {Q : Fin → Shared → Prop} {es : Array (Int × Value)} {k : Nat} {tb : SetTable} (hx : h.get? a = some { cls := .type "set", data := .set es k tb }) (hq : Q (.done (.ret (.ref h.objs.size))) ⟨h.push (bndO "set.__contains__" (.ref a)), g, d, t, os⟩) :
    wpAny (model prog w) A (Builtin.«object.__getattribute__» ⟨[.ref a, .str "__contains__" u], []⟩) Q E ⟨h, g, d, t, os⟩ := by
  have hT : (⟨h, g, d, t, os⟩ : Shared).TypeIs (.ref a) "set" := ⟨_, hx, rfl⟩
  have f4 := tl_contains
  have f5 := ty_contains
  have f6 := slot_md_get.lookup
  have f7 := tl_md_set
  have f8 := tl_md_del
  repeat (any_goals (first | assumption | wp_step))
  refine md_get_contains hx rfl ?_
  repeat (any_goals (first | assumption | wp_step))
theorem get_contains {es : Array (Int × Value)} {k : Nat} {tb : SetTable} {Q : Value → Shared → Prop} (hx : h.get? a = some { cls := .type "set", data := .set es k tb }) (hq : Q (.ref h.objs.size) ⟨h.push (bndO "set.__contains__" (.ref a)), g, d, t + 1, os⟩) :
    wpAny (model prog w) A (getAttr (.ref a) "__contains__" true) Q E ⟨h, g, d, t, os⟩ := by
  have hT : ∀ tk', (⟨h, g, d, tk', os⟩ : Shared).TypeIs (.ref a) "set" := fun _ => ⟨_, hx, rfl⟩
  have f3 := F.slot_set_getattribute.lookup
  have f4 := F.slot_set_getattribute.bind (.ref a)
  unfold getAttr getAttrBy
  repeat (any_goals (first | assumption | exact hT _ | ((with_reducible show wpAny _ _ (call (Value.builtin "set.__getattribute__") _ _) _ _ _); refine wpAny_call (codeAny_call_builtin F.slot_set_getattribute.plain F.entry_set_ga (F.slot_set_getattribute.check _ _ _ _ _ _ _ _ (hT _) (F.args_set_getattribute_2 _ _) (ga_contains hx ?_)))) | wp_step))
end
set_option maxHeartbeats 1000000
theorem slot_filter_next : Slot "filter" "__next__" "filter.__next__" :=
  .of (owner := "filter") (n := "__next__") (by rw [typeLookup_type, builtinLookup_eq_fast]; kernel_rfl) (by decide +kernel) (by decide +kernel) (by decide +kernel)
    (by first | exact .inl (by decide +kernel) | exact .inr (by decide +kernel)) (by rw [isSubtype_type]; kernel_rfl)
theorem slot_filter_iter : Slot "filter" "__iter__" "filter.__iter__" :=
  .of (owner := "filter") (n := "__iter__") (by rw [typeLookup_type, builtinLookup_eq_fast]; kernel_rfl) (by decide +kernel) (by decide +kernel) (by decide +kernel)
    (by first | exact .inl (by decide +kernel) | exact .inr (by decide +kernel)) (by rw [isSubtype_type]; kernel_rfl)
theorem slot_filter_init : Slot "filter" "__init__" "object.__init__" :=
  .of (owner := "object") (n := "__init__") (by rw [typeLookup_type, builtinLookup_eq_fast]; kernel_rfl) (by decide +kernel) (by decide +kernel) (by decide +kernel)
    (by first | exact .inl (by decide +kernel) | exact .inr (by decide +kernel)) (by rw [isSubtype_type]; kernel_rfl)
theorem entry_filter_iter : entryFor table "filter.__iter__" = some Builtin.«dict_keyiterator.__iter__» :=
  entryFor_alias (id' := "dict_keyiterator.__iter__") (by kernel_rfl) (by first | rfl | decide +kernel) (by decide +kernel) (by kernel_rfl)
theorem entry_filter_next : entryFor table "filter.__next__" = some Builtin.«filter.__next__» := entryFor_of_tree (by kernel_rfl)
theorem entry_filter_new : entryFor table "filter.__new__" = some Builtin.«filter.__new__» := entryFor_of_tree (by kernel_rfl)
theorem args_filter_next (a : Value) : argsOk "filter.__next__" ⟨[a], []⟩ := by unfold argsOk; kernel_rfl
theorem args_filter_iter (a : Value) : argsOk "filter.__iter__" ⟨[a], []⟩ := by unfold argsOk; kernel_rfl
theorem mro_filter : mroOf (.type "filter") = pure [.type "filter", .type "object"] := by rw [mroOf_type]; kernel_rfl
theorem lookup_filter_new : typeLookup (.type "filter") "__new__" = pure (some (.builtin "filter.__new__")) := by rw [typeLookup_type, builtinLookup_eq_fast]; kernel_rfl
theorem called_filter : TypeCalled "filter" "filter.__new__" "object.__init__" :=
  ⟨by decide +kernel, by decide +kernel, ⟨_, _, mro_filter⟩, PySem.madeBy_type mro_filter lookup_filter_new (by decide +kernel), by decide +kernel, by rw [isSubtype_type]; kernel_rfl, slot_filter_init⟩
theorem typeCall_filter (a b : Value) : checkTypeCall "filter" ⟨[a, b], []⟩ = pure () := by kernel_rfl
theorem newCall_filter (a b : Value) : checkBuiltinCall "filter.__new__" ⟨[.type "filter", a, b], []⟩ = pure () := by kernel_rfl
theorem sub_filter : isSubtype (.type "filter") (.type "filter") = pure true := by rw [isSubtype_type]; kernel_rfl
theorem filter_no_len : typeLookup (.type "filter") "__len__" = pure none := by rw [typeLookup_type, builtinLookup_eq_fast]; kernel_rfl
theorem filter_no_hint : typeLookup (.type "filter") "__length_hint__" = pure none := by rw [typeLookup_type, builtinLookup_eq_fast]; kernel_rfl
theorem plain_filter_next : plainId "filter.__next__" = true := by decide +kernel
noncomputable def fltO (q it : Addr) : Obj := { cls := .type "filter", data := .fields #[.ref q, .ref it] }
open AutoSeq1 (wpAny_loadPart') in
theorem meets_filter_new (q l : Addr) (items : Array Value) (n : Nat) (dct : Option Addr) (sl : Array (Option Value)) :
    Meets (Builtin.«filter.__new__» ⟨[.type "filter", .ref q, .ref l], []⟩) (fun _ R s => s.heap.get? l = some { cls := .type "list", dict := dct, data := .seq items n, slots := sl } ∧
      R (.ok (.ret (.ref (s.heap.push { cls := .type "list_iterator", data := .fields #[.ref l, .int 0 0] }).objs.size)))
        { s with heap := (s.heap.push { cls := .type "list_iterator", data := .fields #[.ref l, .int 0 0] }).push (fltO q s.heap.objs.size) }) :=
  .of_wp fun prog w A R s h => by
    obtain ⟨hp, g, d, tk, os⟩ := s; obtain ⟨hl, h⟩ := h
    have hsub := sub_filter
    have hL : Heap.IsList (Shared.heap ⟨hp, g, d, tk, os⟩) l items := ⟨_, hl, rfl, n, rfl⟩
    wp_walk using wpAny_loadPart' hl, wpAny_pyIter_list hL
    exact ⟨_, rfl, h⟩
set_option maxHeartbeats 1000000
section
variable {prog : Program} {w : World} {A : Around} {E : Value → Led → Prop} {C : Cx} {σ σ' τ : Led} {s : Shared} {a l q it F D : Addr} {xs : List Value} {zs : List Str} {P : Str → Bool} {n : Nat}
theorem T_getApp {Q : Value → Led → Prop} (hl : (l, .lst xs) ∈ σ) (h : ∀ q, Q (.ref q) ((q, .raw (bndO "list.append" (.ref l))) :: σ)) : T prog w C A σ (getAttr (.ref l) (Str.ofString "append") true) Q E := fun s S => by
  obtain ⟨its, n, ho, he⟩ := S.lst hl
  exact get_append ho ⟨_, h _, S.push (p := .raw (bndO "list.append" (.ref l))) rfl rfl (s.toks + 1)⟩
theorem T_getCon {Q : Value → Led → Prop} (hl : (a, stp prog w P n) ∈ σ) (h : ∀ q, Q (.ref q) ((q, .raw (bndO "set.__contains__" (.ref a))) :: σ)) : T prog w C A σ (getAttr (.ref a) "__contains__" true) Q E := fun s S => by
  obtain ⟨o, ho, hex, es, ep, tb, hd, _⟩ := S.get hl
  have e : o = { cls := .type "set", data := .set es ep tb } := by
    obtain ⟨c, dct, dat, sl⟩ := o
    obtain ⟨h1, h2, h3⟩ := hex
    simp only at h1 h2 h3 hd
    subst h1 h2 h3 hd; rfl
  exact get_contains (e ▸ ho) ⟨_, h _, S.push (p := .raw (bndO "set.__contains__" (.ref a))) rfl rfl (s.toks + 1)⟩
theorem check_contains {v : Value} {E : Value → Shared → Prop} {Q : Unit → Shared → Prop} {es : Array (Int × Value)} {ep : Nat} {tb : SetTable} (ho : s.heap.get? a = some { cls := .type "set", data := .set es ep tb }) (h : Q () s) : wpAny (model prog w) A (checkBoundCall "set.__contains__" ⟨[.ref a, v], []⟩) Q E s := by
  have hsub : isSubtype (.type "set") (.type "module") = pure false := by rw [isSubtype_type]; kernel_rfl
  have hk : builtinKind "set.__contains__" = some .method := by decide +kernel
  have hs : Manifest.signature? "set.__contains__" = some ⟨.oneArg, "set.__contains__", "__contains__", .self, [⟨"object", .posOnly, true⟩]⟩ := by kernel_rfl
  have hT : s.TypeIs (.ref a) "set" := ⟨_, ho, rfl⟩
  unfold checkBoundCall
  rw [hs, hk]
  dsimp only
  rw [if_neg (by decide)]
  refine wpAny_bind (wpAny_isInstance hT hsub ?_)
  rw [if_neg (by decide +kernel)]
  refine wpAny_bind ?_
  unfold isType
  refine wpAny_bind (wpAny_loadPart ho (wpAny_pure ?_))
  dsimp only
  rw [if_neg Bool.false_ne_true]
  refine wpAny_bind (wpAny_typeOf hT ?_)
  dsimp only
  exact wpAny_of_eq (by kernel_rfl) h
theorem set_shape {o : Obj} (hx : (stp prog w P n).Of o) : ∃ es ep tb, o = { cls := .type "set", data := .set es ep tb } := by
  obtain ⟨hex, es, ep, tb, hd, _⟩ := hx
  refine ⟨es, ep, tb, ?_⟩
  obtain ⟨c, dct, dat, sl⟩ := o
  obtain ⟨h1, h2, h3⟩ := hex
  simp only at h1 h2 h3 hd
  subst h1 h2 h3 hd; rfl
theorem T_callCon {x : Str} {t : Tok} {Q : Value → Led → Prop} (hq : (q, .raw (bndO "set.__contains__" (.ref a))) ∈ σ) (ha : (a, stp prog w P n) ∈ σ) (hn : n < 4096) (h : Q (.bool (P x)) σ) : T prog w C A σ (call (.ref q) [.str x t]) Q E := fun s S => by
  obtain ⟨o, ho, hp⟩ := S.get hq
  have hp : o = _ := hp
  subst hp
  have hS := S.setOf ha hn
  obtain ⟨o, hos, hps⟩ := S.get ha
  obtain ⟨es, ep, tb, rfl⟩ := set_shape hps
  refine wpAny_call (codeAny_of_tree ?_)
  show wpAny _ A.in1 (callAny (.ref q) ⟨[.str x t], []⟩) _ _ s
  simp only [callAny]
  refine wpAny_bind (wpAny_load ho ?_)
  simp only [bndO, show (Value.type "builtin_function_or_method" == Value.type "method" || Value.type "builtin_function_or_method" == Value.type "builtin_function_or_method" || Value.type "builtin_function_or_method" == Value.type "method-wrapper") = true by decide, if_true]
  show wpAny _ _ (if (Value.type "builtin_function_or_method" != Value.type "method") = true then _ else _) _ _ s
  rw [if_pos (by decide)]
  refine wpAny_bind (check_contains hos ?_)
  refine wpAny_bind (wpAny_pure (wpAny_pure ?_))
  refine ⟨plainId_quiet (by decide +kernel) _, codeAny_builtin PySem.entry_set_contains ?_⟩
  rw [Around.under_plainId (by decide +kernel)]
  unfold Builtin.«frozenset.__contains__» Builtin.Frozenset.oneOther
  simp only [List.isEmpty_nil, bind_assoc]
  unfold Builtin.Frozenset.addrOf Builtin.Frozenset.withSetAsKey setContains
  refine wpAny_bind (wpAny_pure ?_)
  try dsimp only
  refine wpAny_bind (wpAny_pure ?_)
  try dsimp only
  refine wpAny_bind (wpAny_tryCatch ?_)
  refine wpAny_holding ?_
  refine wpAny_bind ((PySem.strKind prog w).pyHash (k := x) (strKind_is ..) ?_)
  refine wpAny_bind (wpAny_setFind_of (s := { s with toks := s.toks + 1 }) (knd := PySem.strKind prog w) (strKind_is prog w x t) rfl hS fun r hr => ?_)
  refine wpAny_pure ?_
  show wpAny _ _ (ret (Value.bool r.isSome)) _ _ _
  rw [hr]
  exact wpAny_pure ⟨_, h, S.tok _⟩
theorem T_filter {Q : Value → Led → Prop} (hl : (l, .lst xs) ∈ σ) (h : ∀ F it, Q (.ref F) ((F, .raw (fltO q it)) :: (it, itr l 0) :: σ)) : T prog w C A σ (call (.type "filter") [.ref q, .ref l]) Q E := fun s S => by
  obtain ⟨its, n, ho, he⟩ := S.lst hl
  refine callType_new called_filter (by decide) (typeCall_filter _ _) (newCall_filter _ _) (fun obj => F.args_object_init_3 obj _ _) entry_filter_new (meets_filter_new q l its n none #[]) ⟨ho, ?_⟩
  have S₁ := S.push (p := itr l 0) (o := { cls := .type "list_iterator", data := .fields #[.ref l, .int 0 0] }) ⟨rfl, rfl⟩ rfl s.toks
  have S₂ := S₁.push (p := .raw (fltO q s.heap.objs.size)) (o := fltO q s.heap.objs.size) rfl rfl s.toks
  exact ⟨⟨_, Heap.get?_push_size _ rfl, rfl⟩, _, h _ _, S₂⟩
theorem csp_item {E : Value → Shared → Prop} {i : Nat} {items : Array Value} {x : Value} {Q : Option Value → Shared → Prop} (hit : s.heap.IsListIter it l i)
    (hl : s.heap.IsList l items) (hx : items[i]? = some x) (hQ : ∀ h', h'.IsListIter it l (i + 1) → Heap.SameBut it s.heap h' → Q (some x) { s with heap := h' }) :
    wpAny (model prog w) A (callSpecial? (.ref it) (Str.ofString "__next__")) Q E s := by
  obtain ⟨o, ho, hc, hd⟩ := id hit
  obtain ⟨ol, hol, _, nl, hdl⟩ := hl
  refine wpAny_callSpecial?_slot (name := Str.ofString "__next__") hit.typeIs slot_listiter_next (wpAny_call_entry slot_listiter_next hit.typeIs entry_listiter_next ?_ (args_listiter_next _))
  show wpAny _ _ (field (.ref it) 0 >>= _) _ _ s
  refine wpAny_bind (wpAny_field ho hd (x := .ref l) rfl ?_)
  show wpAny _ _ (if (Value.ref l == Value.none) = true then _ else _) _ _ s
  rw [if_neg (show ¬ ((Value.ref l == Value.none) = true) from Bool.false_ne_true)]
  show wpAny _ _ (field (.ref it) 1 >>= _) _ _ s
  refine wpAny_bind (wpAny_field ho hd (x := .int i 0) rfl ?_)
  show wpAny _ _ (seqItems? (.ref l) >>= _) _ _ s
  refine wpAny_bind (wpAny_seqItems hol hdl ?_)
  simp only [Int.toNat_natCast, hx]
  refine wpAny_bind (wpAny_setField ho hd (by simp) (wpAny_pure ⟨x, rfl, hQ _ ?_ (Heap.SameBut.update ..)⟩))
  exact ⟨_, Heap.get?_update_self _ ho (Obj.isFreed_of_fields (Obj.data_mapFields hd _)), (Obj.cls_mapFields ..).trans hc, by
    rw [Obj.data_mapFields hd]; simp [rawInt]⟩
theorem csp_end {E : Value → Shared → Prop} {i : Nat} {items : Array Value} {Q : Option Value → Shared → Prop} (hh : A.handled = none) (hit : s.heap.IsListIter it l i) (hl : s.heap.IsList l items) (hx : items[i]? = none)
    (hE : ∀ h' e, Heap.ExtBut it s.heap h' → (∃ o, h'.get? e = some o ∧ o.cls = .type "StopIteration") → E (.ref e) { s with heap := h' }) :
    wpAny (model prog w) A (callSpecial? (.ref it) (Str.ofString "__next__")) Q E s := by
  obtain ⟨o, ho, hc, hd⟩ := id hit
  obtain ⟨ol, hol, _, nl, hdl⟩ := hl
  refine wpAny_callSpecial?_slot (name := Str.ofString "__next__") hit.typeIs slot_listiter_next (wpAny_call_entry slot_listiter_next hit.typeIs entry_listiter_next ?_ (args_listiter_next _))
  show wpAny _ _ (field (.ref it) 0 >>= _) _ _ s
  refine wpAny_bind (wpAny_field ho hd (x := .ref l) rfl ?_)
  show wpAny _ _ (if (Value.ref l == Value.none) = true then _ else _) _ _ s
  rw [if_neg (show ¬ ((Value.ref l == Value.none) = true) from Bool.false_ne_true)]
  show wpAny _ _ (field (.ref it) 1 >>= _) _ _ s
  refine wpAny_bind (wpAny_field ho hd (x := .int i 0) rfl ?_)
  show wpAny _ _ (seqItems? (.ref l) >>= _) _ _ s
  refine wpAny_bind (wpAny_seqItems hol hdl ?_)
  simp only [Int.toNat_natCast, hx]
  refine wpAny_bind (wpAny_rule (wpAny_bind (wpAny_setField ho hd (by simp) ?_)))
  show wpAny _ _ (newExc (.type "StopIteration") [] >>= _) _ _ _
  refine wpAny_bind ?_
  simp only [newExc, newTuple]
  refine wpAny_bind (wpAny_newObj_type ?_ (by size_fits))
  refine wpAny_bind (m := firstArgMember _ _) (wpAny_of_eq (a := Value.none) (by first | rfl | (simp only [firstArgMember]; rfl)) ?_)
  refine wpAny_newObj_type ?_ (by size_fits)
  simp only [raiseNew]
  refine wpAny_bind (wpAny_handled ?_)
  rw [show A.in1.handled = none from hh]
  refine wpAny_bind (wpAny_pure (wpAny_throw ?_))
  exact hE _ _ (((Heap.SameBut.update ..).extBut.push _).push _) ⟨_, Heap.get?_push_size _ rfl, rfl⟩
theorem flt_code {R : Result → Shared → Prop} (hh : A.handled = none) (hn : n < 4096) (hl : (l, .lst (txts zs)) ∈ τ) (hq : (q, .raw (bndO "set.__contains__" (.ref a))) ∈ τ) (ha : (a, stp prog w P n) ∈ τ) :
    ∀ k j s, zs.length - j = k → Sat C ((F, .raw (fltO q it)) :: (it, itr l j) :: τ) s →
      ((zs.drop j).filter P = [] → ∀ s' e, Sat C ((F, .raw (fltO q it)) :: τ) s' → (∃ o, s'.heap.get? e = some o ∧ o.cls = .type "StopIteration") → R (.error (.ref e)) s') →
      (∀ z t i s', i < zs.length → (zs.drop j).filter P = z :: (zs.drop (i + 1)).filter P → Sat C ((F, .raw (fltO q it)) :: (it, itr l (i + 1)) :: τ) s' → R (.ok (.ret (.str z t))) s') →
      codeAny (model prog w) A (.builtin "filter.__next__" ⟨[.ref F], []⟩) R s := by
  intro k
  induction k with
  | zero =>
    intro j s hk S h0 h1
    refine codeAny_builtin entry_filter_next ?_
    rw [Around.under_plainId plain_filter_next _]
    obtain ⟨of, hof, hp⟩ := S.get (.head _)
    have hp : of = _ := hp
    subst hp
    obtain ⟨oi, hoi, hci, hdi⟩ := S.get (.tail _ (.head _))
    obtain ⟨its, hL, he⟩ := S.isList (.tail _ (.tail _ hl))
    have hlen : its.size = zs.length := by have := congrArg List.length he; rw [List.length_map, Array.length_toList, List.length_map] at this; exact this
    show wpAny _ A.in1 (field (.ref F) 0 >>= fun func => field (.ref F) 1 >>= _) _ _ s
    refine wpAny_bind (wpAny_field hof rfl (x := .ref q) rfl ?_)
    refine wpAny_bind (wpAny_field hof rfl (x := .ref it) rfl ?_)
    refine wpAny_bind (csp_end hh ⟨oi, hoi, hci, hdi⟩ hL (by rw [Array.getElem?_eq_none_iff]; wtm_at "om") fun h' e hx hex => ?_)
    have hd : zs.drop j = [] := List.drop_eq_nil_iff.mpr (by wtm_at "om")
    exact h0 (by rw [hd]; rfl) _ e ((S.perm (List.Perm.swap _ _ _)).ext hx s.toks) hex
  | succ k ih =>
    intro j s hk S h0 h1
    refine codeAny_builtin entry_filter_next ?_
    rw [Around.under_plainId plain_filter_next _]
    obtain ⟨of, hof, hp⟩ := S.get (.head _)
    have hp : of = _ := hp
    subst hp
    obtain ⟨oi, hoi, hci, hdi⟩ := S.get (.tail _ (.head _))
    obtain ⟨its, hL, he⟩ := S.isList (.tail _ (.tail _ hl))
    have hlt : j < zs.length := by wtm_at "om"
    have hv : ∃ v, its[j]? = some v ∧ er v = .str zs[j] 0 := by
      have := congrArg (fun l => l[j]?) he
      rw [List.getElem?_map, List.getElem?_map, List.getElem?_eq_getElem hlt] at this
      obtain ⟨v, hv, e⟩ := Option.map_eq_some_iff.mp this
      exact ⟨v, by rw [← Array.getElem?_toList]; exact hv, e⟩
    obtain ⟨v, hv, hve⟩ := hv
    obtain ⟨t, rfl⟩ := er_str hve
    show wpAny _ A.in1 (field (.ref F) 0 >>= fun func => field (.ref F) 1 >>= _) _ _ s
    refine wpAny_bind (wpAny_field hof rfl (x := .ref q) rfl ?_)
    refine wpAny_bind (wpAny_field hof rfl (x := .ref it) rfl ?_)
    refine wpAny_bind (csp_item ⟨oi, hoi, hci, hdi⟩ hL hv fun h' hit hs => ?_)
    obtain ⟨o', ho', hc', hd'⟩ := hit
    have S₁ := S.set (.tail (.head (p' := itr l (j + 1)))) hs ho' ⟨hc', hd'⟩ s.toks
    refine wpAny_bind (wpAny_holding ?_)
    have e1 : (Value.ref q == Value.none || Value.ref q == Value.type "bool") = false := rfl
    show wpAny _ _ (if (Value.ref q == Value.none || Value.ref q == Value.type "bool") = true then _ else _) _ _ _
    rw [e1, if_neg Bool.false_ne_true]
    have hdrop : zs.drop j = zs[j] :: zs.drop (j + 1) := List.drop_eq_getElem_cons hlt
    refine wpAny_bind (T.kN (T_callCon (E := NoE) (Q := fun v σ' => v = .bool (P zs[j]) ∧ σ' = (F, .raw (fltO q it)) :: (it, itr l (j + 1)) :: τ) (x := zs[j]) (t := t) (.tail _ (.tail _ hq)) (.tail _ (.tail _ ha)) hn ⟨rfl, rfl⟩) S₁ fun v σ' s₂ hv S₂ => ?_)
    obtain ⟨rfl, rfl⟩ := hv
    refine wpAny_holding (wpAny_truthy_bool ?_)
    cases hP : P zs[j] with
    | true =>
      show wpAny _ _ (if true = true then ret (.str zs[j] t) else _) _ _ _
      rw [if_pos rfl]
      exact wpAny_pure (h1 _ t j s₂ hlt (by rw [hdrop, List.filter_cons_of_pos hP]) S₂)
    | false =>
      show wpAny _ _ (if false = true then _ else again (.builtin "filter.__next__" ⟨[.ref F], []⟩)) _ _ _
      rw [if_neg Bool.false_ne_true]
      have hf : (zs.drop j).filter P = (zs.drop (j + 1)).filter P := by rw [hdrop, List.filter_cons_of_neg (by rw [hP]; exact Bool.false_ne_true)]
      refine wpAny_pure ⟨plainId_quiet plain_filter_next _, ih (j + 1) s₂ (by wtm_at "om") S₂ (fun hf' => h0 (hf.trans hf')) fun z t i s' hi hz => h1 z t i s' hi (hf.trans hz)⟩
theorem flt_next {E : Value → Shared → Prop} {Q : Option Value → Shared → Prop} (hh : A.handled = none) (hn : n < 4096) (hl : (l, .lst (txts zs)) ∈ τ) (hq : (q, .raw (bndO "set.__contains__" (.ref a))) ∈ τ) (ha : (a, stp prog w P n) ∈ τ) (j : Nat)
    (S : Sat C ((F, .raw (fltO q it)) :: (it, itr l j) :: τ) s) (h0 : (zs.drop j).filter P = [] → ∀ s', Sat C ((F, .raw (fltO q it)) :: τ) s' → Q none s')
    (h1 : ∀ z t i s', i < zs.length → (zs.drop j).filter P = z :: (zs.drop (i + 1)).filter P → Sat C ((F, .raw (fltO q it)) :: (it, itr l (i + 1)) :: τ) s' → Q (some (.str z t)) s') :
    wpAny (model prog w) A (pyNext (.ref F)) Q E s := by
  obtain ⟨of, hof, hp⟩ := S.get (.head _)
  have hp : of = _ := hp
  subst hp
  have hT : s.TypeIs (.ref F) "filter" := ⟨_, hof, rfl⟩
  unfold pyNext
  refine wpAny_bind (wpAny_attempt (wpAny_callSpecial?_slot (name := Str.ofString "__next__") hT slot_filter_next (wpAny_call (codeAny_call_builtin_code (plainId_quiet plain_filter_next _)
    (slot_filter_next.check _ _ _ _ _ _ _ _ hT (args_filter_next _) (flt_code hh hn hl hq ha _ j s rfl S (fun hf s' e S' hx => ?_) fun z t i s' hi hz S' => ?_))))))
  · obtain ⟨o, ho, hc⟩ := hx
    refine wpAny_bind (wpAny_isInstance (T := "StopIteration") (b := true) ⟨o, ho, hc⟩ isSubtype_stop ?_)
    exact wpAny_pure (h0 hf s' S')
  · exact wpAny_pure (h1 z t i s' hi hz S')
theorem flt_loop {R : Result → Shared → Prop} {res : Value} (hh : A.handled = none) (hn : n < 4096) (hl : (l, .lst (txts zs)) ∈ τ) (hq : (q, .raw (bndO "set.__contains__" (.ref a))) ∈ τ) (ha : (a, stp prog w P n) ∈ τ) (hz : zs.length ≤ 100000) :
    ∀ k j acc s, zs.length - j ≤ k → acc.length ≤ j → j ≤ zs.length → Sat C ((F, .raw (fltO q it)) :: (it, itr l j) :: (D, .lst (txts acc)) :: τ) s → (∀ s', Sat C ((D, .lst (txts (acc ++ (zs.drop j).filter P))) :: τ) s' → R (.ok (.ret res)) s') →
      codeAny (model prog w) A (.builtin "list.extend.loop" ⟨[.ref D, .ref F, res], []⟩) R s := by
  intro k
  induction k with
  | zero =>
    intro j acc s hk hacc hj S h
    refine codeAny_builtin PySem.F.entry_extend_loop ?_
    rw [Around.under_plainId PySem.F.plain_extend_loop _]
    show wpAny _ A.in1 (pyNext (.ref F) >>= _) _ _ s
    have hd : zs.drop j = [] := List.drop_eq_nil_iff.mpr (by wtm_at "om")
    refine wpAny_bind (flt_next (A := A.in1) hh hn (.tail _ hl) (.tail _ hq) (.tail _ ha) j S (fun _ s' S' => ?_) fun z t i s' hi hz => ?_)
    · refine wpAny_pure (h s' ?_)
      rw [hd, List.filter_nil, List.append_nil]; exact S'.sub (List.sublist_cons_self _ _)
    · rw [hd] at hz; cases hz
  | succ k ih =>
    intro j acc s hk hacc hj S h
    refine codeAny_builtin PySem.F.entry_extend_loop ?_
    rw [Around.under_plainId PySem.F.plain_extend_loop _]
    show wpAny _ A.in1 (pyNext (.ref F) >>= _) _ _ s
    refine wpAny_bind (flt_next (A := A.in1) hh hn (.tail _ hl) (.tail _ hq) (.tail _ ha) j S (fun hf s' S' => ?_) fun z t i s' hi hf S' => ?_)
    · refine wpAny_pure (h s' ?_)
      rw [hf, List.append_nil]; exact S'.sub (List.sublist_cons_self _ _)
    · obtain ⟨its, nn, ho, he⟩ := S'.lst (.tail _ (.tail _ (.head _)))
      have hlen := lst_len he
      have hj' : j ≤ i := by
        refine Nat.not_lt.mp fun hlt => ?_
        have h1 := congrArg List.length hf
        have h2 : ((zs.drop j).filter P).length ≤ ((zs.drop (i + 1)).filter P).length := by
          have : (zs.drop j).Sublist (zs.drop (i + 1)) := by
            rw [show j = (i + 1) + (j - (i + 1)) by wtm_at "om", ← List.drop_drop]; exact List.drop_sublist _ _
          exact (this.filter P).length_le
        rw [List.length_cons] at h1; wtm_at "om"
      show wpAny _ _ (updateSeq D (·.push (.str z t)) >>= fun _ => again (.builtin "list.extend.loop" ⟨[.ref D, .ref F, res], []⟩)) _ _ s'
      refine wpAny_bind (wpAny_updateSeq (hz := by rw [sizeLine_eq]; rw [List.length_map] at hlen; wtm_at "om") (_hz' := by rw [Array.size_push, sizeLine_eq]; rw [List.length_map] at hlen; wtm_at "om") ho rfl ?_)
      have S₂ := S'.upd (.tail (.tail (.head (p' := .lst (txts (acc ++ [z])))))) (f := Obj.mapSeq (·.push (.str z t))) ho (by
        obtain ⟨c, hc⟩ := mapSeq_at (its := its) (n := nn) (·.push (.str z t))
        rw [hc]; exact lst_of (by rw [Array.toList_push, List.map_append, he]; show _ = List.map _ (acc ++ [z]); rw [List.map_append]; rfl)) rfl s'.toks
      refine wpAny_pure ⟨plainId_quiet PySem.F.plain_extend_loop _, ih (i + 1) (acc ++ [z]) _ (by wtm_at "om") (by rw [List.length_append]; show acc.length + 1 ≤ _; wtm_at "om") hi S₂ fun s'' S'' => h s'' ?_⟩
      rw [hf]
      rw [List.append_assoc] at S''
      exact S''
theorem T_listF {Q : Value → Led → Prop} (hh : A.handled = none) (hn : n < 4096) (hl : (l, .lst (txts zs)) ∈ τ) (hq : (q, .raw (bndO "set.__contains__" (.ref a))) ∈ τ) (ha : (a, stp prog w P n) ∈ τ) (hz : zs.length ≤ 100000)
    (h : ∀ D, Q (.ref D) ((D, .lst (txts (zs.filter P))) :: τ)) : T prog w C A ((F, .raw (fltO q it)) :: (it, itr l 0) :: τ) (call (.type "list") [.ref F]) Q E := by
  intro s S
  refine callType_codes (Q₁ := fun obj s₁ => obj = .ref s.heap.objs.size ∧ s₁ = { s with heap := s.heap.push { cls := .type "list", data := .seq #[] } }) PySem.F.called_list (PySem.F.typeCall_list_1 _) PySem.F.entry_list_init
    (code_list_new _ ⟨rfl, rfl⟩) fun obj s₁ h₁ => ?_
  obtain ⟨rfl, rfl⟩ := h₁
  have S₁ := S.push (p := .lst []) (o := { cls := .type "list", data := .seq ([] : List Value).toArray }) (lst_of rfl) rfl s.toks
  generalize hD : s.heap.objs.size = D at S₁ ⊢
  have S₂ : Sat C ((F, .raw (fltO q it)) :: (it, itr l 0) :: (D, .lst []) :: τ) { s with heap := s.heap.push { cls := .type "list", data := .seq #[] } } := S₁.perm ((List.Perm.swap _ _ _).trans (List.Perm.cons _ (List.Perm.swap _ _ _)))
  have hS : (s.heap.push { cls := .type "list", data := .seq #[] }).get? D = some { cls := .type "list", data := .seq #[] } := by rw [← hD]; exact Heap.get?_push_size _ rfl
  refine ⟨⟨_, hS, rfl⟩, PySem.F.args_list_init_2 _ _, ?_⟩
  generalize hs₁ : ({ s with heap := s.heap.push { cls := .type "list", data := .seq #[] } } : Shared) = s₁ at S₂ ⊢
  have hS : s₁.heap.get? D = some { cls := .type "list", data := .seq #[] } := by rw [← hs₁]; exact hS
  show wpAny _ A.in1.in1 (do let old ← Builtin.List.listItems (.ref D); Builtin.List.listUpdate (.ref D) (fun _ => #[]); letGo old.toList.reverse; Builtin.List.listExtendWith (.ref D) (.ref F) .none) _ _ s₁
  refine wpAny_bind ?_
  unfold Builtin.List.listItems
  refine wpAny_bind (wpAny_seqItems hS rfl (wpAny_pure ?_))
  show wpAny _ A.in1.in1 (updateSeq D (fun _ => #[]) >>= fun _ => letGo (#[] : Array Value).toList.reverse >>= fun _ => Builtin.List.listExtendWith (.ref D) (.ref F) .none) _ _ s₁
  refine wpAny_bind (wpAny_updateSeq hS rfl ?_)
  have hS₂ := Heap.get?_update_self (Obj.mapSeq (fun _ => (#[] : Array Value))) hS rfl
  have S₃ := S₂.set (.tail (.tail (.head (p' := .lst [])))) (Heap.SameBut.update ..) hS₂ ⟨_, _, rfl, rfl⟩ s₁.toks
  refine wpAny_bind (wpAny_letGo ?_)
  generalize hs₃ : ({ s₁ with heap := s₁.heap.update D (Obj.mapSeq (fun _ => (#[] : Array Value))) } : Shared) = s₃ at S₃ ⊢
  obtain ⟨of, hof, hp⟩ := S₃.get (.head _)
  have hp : of = _ := hp
  subst hp
  have hT : s₃.TypeIs (.ref F) "filter" := ⟨_, hof, rfl⟩
  have hDF : D ≠ F := fun e => by
    have nd := S₃.nd
    rw [List.map_cons, List.nodup_cons] at nd
    exact nd.1 (by rw [← e]; exact .tail _ (.head _))
  unfold Builtin.List.listExtendWith
  refine wpAny_bind (wpAny_typeOf hT ?_)
  have h1 : Builtin.List.listSameRef (.ref D) (.ref F) = false := by simp [Builtin.List.listSameRef, hDF]
  have h2 : (Value.type "filter" == Value.type "list") = false := by decide
  have h3 : (Value.type "filter" == Value.type "tuple") = false := by decide
  simp only [h1, h2, h3, Bool.or_false, Bool.false_eq_true, if_false]
  refine wpAny_bind (wpAny_pyIter_slot hT slot_filter_iter (wpAny_call_entry slot_filter_iter hT entry_filter_iter ?_ (args_filter_iter _)))
  show wpAny _ _ (ret (.ref F)) _ _ s₃
  refine wpAny_pure ⟨_, rfl, "filter", _, hT, slot_filter_next.lookup, ?_⟩
  refine wpAny_bind (wpAny_holding ?_)
  unfold Builtin.List.listLengthHint
  refine wpAny_bind (wpAny_specialOf hT filter_no_len ?_)
  show wpAny _ _ (specialOf (Value.ref F) (Str.ofString "__length_hint__") >>= _) _ _ _
  refine wpAny_bind (wpAny_specialOf hT filter_no_hint ?_)
  refine wpAny_pure ?_
  show wpAny _ _ (rule "list.extend.makes-room" >>= fun _ => Builtin.List.listTouch (.ref D) >>= fun _ => again (.builtin "list.extend.loop" ⟨[.ref D, .ref F, .none], []⟩)) _ _ _
  refine wpAny_bind (wpAny_rule ?_)
  refine wpAny_bind ?_
  obtain ⟨its, nn, hoD, he⟩ := S₃.lst (.tail _ (.tail _ (.head _)))
  have hits : its = #[] := Array.eq_empty_of_size_eq_zero (lst_len he)
  subst hits
  show wpAny _ _ (updateSeq D (·.push .none) >>= fun _ => updateSeq D (·.pop)) _ _ _
  refine wpAny_bind (wpAny_updateSeq hoD rfl ?_)
  have hS₂ := Heap.get?_update_self (Obj.mapSeq (·.push Value.none)) hoD rfl
  refine wpAny_updateSeq hS₂ rfl ?_
  have hS₄ := Heap.get?_update_self (Obj.mapSeq (·.pop)) hS₂ rfl
  have S₄ := S₃.set (.tail (.tail (.head (p' := .lst (txts []))))) ((Heap.SameBut.update _ D _).trans (Heap.SameBut.update _ D _)) hS₄ ⟨_, _, rfl, rfl⟩ s₃.toks
  refine wpAny_pure ⟨plainId_quiet PySem.F.plain_extend_loop _, flt_loop (A := A.in1) hh hn hl hq ha hz _ 0 [] _ (Nat.le_refl _) (Nat.le_refl _) (Nat.zero_le _) S₄ fun s' S' => ?_⟩
  exact ⟨rfl, _, h D, S'⟩
end
set_option maxHeartbeats 1000000
section
variable {prog : Program} {w : World} {C : Cx} {A : Around} {σ ρ : Led} {E : Value → Led → Prop} {Q : Value → Led → Prop} {t u : Tok} {zs hs : List Str} {x1 d1 u1 r1 x2 d2 u2 r2 : Addr}
theorem T_newEntry (hK : C.K = KK w.params) (R : Rm 3 A) (hQ : ∀ x d u r, Q (.ref x) ((r, .lst []) :: (u, .lst []) :: (x, .ins 76 d) :: (d, .idc (entryF u r)) :: σ)) : T prog w C A σ (call (.ref 76) []) Q E :=
  fun _ S => newEntry hK S R fun x d u r _ S' => ⟨_, hQ x d u r, S'⟩
theorem T_setOf {l : Addr} {xs : List Str} (hl : (l, .lst (txts xs)) ∈ σ) (hz : xs.length + 1 < 4096) (hh : A.handled = none) (h : ∀ a n, n ≤ xs.length → Q (.ref a) ((a, stp prog w (fun y => xs.any fun z => decide (y = z)) n) :: σ)) : T prog w C A σ (call (.type "set") [.ref l]) Q E :=
  fun _ S => setOfL S hl hz hh fun a n _ hn S' => ⟨_, h a n hn, S'⟩
theorem T_merge (hK : C.K = KK w.params) (R : Rm 6 A) (h1 : (x1, .ins 76 d1) ∈ σ) (h2 : (d1, .idc (entryF u1 r1)) ∈ σ) (h3 : (u1, .lst (txts zs)) ∈ σ) (h4 : (r1, .lst []) ∈ σ)
    (g1 : (x2, .ins 76 d2) ∈ σ) (g2 : (d2, .idc (entryF u2 r2)) ∈ σ) (g3 : (u2, .lst (txts hs)) ∈ σ) (g4 : (r2, .lst []) ∈ σ) (hz : zs.length ≤ 1000) (hhs : hs.length ≤ 1000)
    (hQ : ∀ x d u fs, fs.lookup (Str.ofString "useragents") = some (.ref u) → Q (.ref x) ((u, .lst (txts (zs.filter fun y => hs.any fun z => decide (y = z)))) :: (x, .ins 76 d) :: (d, .idc fs) :: σ)) :
    T prog w C A σ (call (.ref 87) [.ref x1, .ref x2]) Q E := by
  refine' T_callF (m := [(Str.ofString "e2", .ref x2), (Str.ofString "e1", .ref x1)]) [(Str.ofString "e1", .ref x1), (Str.ofString "e2", .ref x2)] R.room (ho := ?ho) (hcd := ?hcd) (hbind := ?hb) (hloc := ?hloc) (hm := ?hm) (h := ?h) (hco := ?hco) (hgen := ?hgen) (hk := ?hk) (hcell := ?hcell)
  case ho => rw [hK]; exact lookup_KK rfl rfl
  case hcd => wtm_at "r_k"
  case hb => exact fun s X => kp_binds (K := KK w.params) (hK ▸ X) fun S => by kernel_rfl!
  case hloc => kernel_rfl
  case hm => exact rfl
  case hco => rfl
  case hgen => rfl
  case hk => rfl
  case hcell => decide
  intro L
  wtm_at "t_go"
  refine T_newEntry hK ((R.deeper _).le (by wtm_at "om")) fun x d u r => ?_
  wtm_at "t_go"
  refine T_setOf (by wtm_at "r_mem") (by wtm_at "om") R.hand fun a n hn => ?_
  wtm_at "t_go"
  refine T_getCon (by wtm_at "r_mem") fun q => ?_
  wtm_at "t_go"
  refine T_filter (by wtm_at "r_mem") fun F it => ?_
  wtm_at "t_go"
  refine T_listF (P := fun y => hs.any fun z => decide (y = z)) (n := n) (a := a) (q := q) R.hand (by wtm_at "om") (by wtm_at "r_mem") (by wtm_at "r_mem") (by wtm_at "r_mem") (by wtm_at "om") fun D => ?_
  wtm_at "t_go"
  refine T_addL (by wtm_at "r_mem") (by wtm_at "r_mem") (by simp) fun D2 => ?_
  wtm_at "t_go"
  refine ⟨_, ?_, hQ x d D (repl (Str.ofString "req_rate") Value.none (repl (Str.ofString "delay") Value.none (repl (Str.ofString "rulelines") (Value.ref D2) (repl (Str.ofString "useragents") (Value.ref D) (entryF u r))))) (by kernel_rfl!)⟩
  refine List.Sublist.cons _ (List.Sublist.cons_cons _ ?_)
  iterate 4 apply List.Sublist.cons
  exact List.Sublist.cons_cons _ (List.Sublist.cons_cons _ (List.Sublist.cons _ (List.Sublist.refl _)))
end
set_option maxHeartbeats 1000000
noncomputable def intL (xs : List Int) : List Value := xs.map fun i => .int i 0
theorem ints_of {its : List Value} {xs : List Int} (h : its.map er = intL xs) : ∃ ps : List (Int × Tok), its = ps.map (fun p => Value.int p.1 p.2) ∧ ps.map (·.1) = xs := by
  induction its generalizing xs with
  | nil => cases xs with
    | nil => exact ⟨[], rfl, rfl⟩
    | cons x xs => cases h
  | cons v its ih =>
    cases xs with
    | nil => cases h
    | cons x xs =>
      rw [List.map_cons] at h
      injection h with h1 h2
      obtain ⟨ps, rfl, h3⟩ := ih h2
      cases v with
      | int i t => cases h1; exact ⟨(x, t) :: ps, rfl, by rw [List.map_cons, h3]⟩
      | _ => cases h1
section
variable {prog : Program} {w : World} {C : Cx} {A : Around} {σ τ : Led} {s : Shared} {E : Value → Led → Prop} {env : Env} {l : Addr} {xs : List Int}
theorem T_sum {Q : Value → Led → Prop} (hh : A.handled = none) (hl : (l, .lst (intL xs)) ∈ σ) (h : ∀ t, Q (.int xs.sum t) σ) : T prog w C A σ (call (.builtin "sum") [.ref l]) Q E := fun s S => by
  obtain ⟨its, hL, he⟩ := S.isList hl
  obtain ⟨ps, e1, e2⟩ := ints_of he
  have e3 : its = intItems ps.toArray := by
    apply Array.ext'
    rw [e1]; simp [intItems]
  subst e3
  refine withTk (sum_intListG hh hL fun h' tk t' hk htk => ?_) S.tk
  rw [preSum_eq, List.take_of_length_le (by simp)]
  have e4 : (ps.toArray.toList.map (·.1)).sum = xs.sum := by rw [← e2]
  rw [e4]
  exact ⟨_, h t', (S.grown hk).tok tk htk⟩
noncomputable def enm (it : Addr) (i : Nat) : PO := .prd fun o => ∃ old, o = { cls := .type "enumerate", dict := none, data := .fields #[.none, .bool false, .ref it, rawInt i, .none, old], slots := #[] }
theorem T_enum {Q : Value → Led → Prop} {ys : List Value} (hl : (l, .lst ys) ∈ σ) (h : ∀ e it, Q (.ref e) ((e, enm it 0) :: (it, itr l 0) :: σ)) : T prog w C A σ (call (.type "enumerate") [.ref l]) Q E := fun s S => by
  obtain ⟨its, n, ho, he⟩ := S.lst hl
  refine callType_new PySem.F.called_enumerate (by decide) (PySem.F.typeCall_enumerate_1 _) (PySem.F.newCall_enumerate_1 _) (fun obj => PySem.F.args_object_init_2 obj _) PySem.F.entry_enumerate_new (meets_enumerate_newL l its n none #[]) ⟨ho, ?_⟩
  have S₁ := S.push (p := itr l 0) (o := { cls := .type "list_iterator", data := .fields #[.ref l, .int 0 0] }) ⟨rfl, rfl⟩ rfl s.toks
  have S₂ := S₁.push (p := enm s.heap.objs.size 0) (o := { cls := .type "enumerate", data := .fields #[.none, .bool false, .ref s.heap.objs.size, rawInt 0, .none, .none] }) ⟨_, rfl⟩ rfl s.toks
  exact ⟨⟨_, Heap.get?_push_size _ rfl, rfl⟩, _, h _ _, S₂⟩
theorem Sat.turn {e it : Addr} {p p' q q' r : PO} {oe oi oT : Obj} (S : Sat C ((e, p) :: (it, q) :: τ) s) {h' : Heap} (hk : ∀ b o, b ≠ e → b ≠ it → s.heap.get? b = some o → h'.get? b = some o)
    (he : h'.get? e = some oe) (hpe : p'.Of oe) (hi : h'.get? it = some oi) (hpi : q'.Of oi) (hT : h'.get? s.heap.objs.size = some oT) (hpT : r.Of oT) (t : Nat) (ht : 0 < t := by wtm_at "r_pos") :
    Sat C ((e, p') :: (it, q') :: (s.heap.objs.size, r) :: τ) { s with heap := h', toks := t } := by
  have nd := S.nd
  have le := S.low _ (.head _)
  have li := S.low _ (.tail _ (.head _))
  have k : ∀ b o, b < C.h₀.objs.size → s.heap.get? b = some o → h'.get? b = some o := fun b o hb => hk b o (fun x => Nat.lt_irrefl _ (Nat.lt_of_lt_of_le (x ▸ hb) le)) (fun x => Nat.lt_irrefl _ (Nat.lt_of_lt_of_le (x ▸ hb) li))
  rw [List.map_cons, List.map_cons, List.nodup_cons, List.nodup_cons] at nd
  obtain ⟨n1, n2, n3⟩ := nd
  have hlt : ∀ x ∈ τ.map (·.1), x < s.heap.objs.size := fun x hx => by
    obtain ⟨q, hq, rfl⟩ := List.mem_map.mp hx
    exact S.lt (p := q.2) (.tail _ (.tail _ hq))
  have helt := S.lt (p := p) (.head _)
  have hilt := S.lt (p := q) (.tail _ (.head _))
  refine ⟨OldK.lowK S.old k, ?_, fun x hx => ?_, fun x hx => ?_, ?_, S.os, S.gens, S.gl, ht, fun x hx => (S.lam x hx).step (fun o e => k _ o (C.lamlow x hx) e)
    (fun b o hb => hk b o (fun x => hb (by rw [List.map_cons, x]; exact .head _)) (fun x => hb (by rw [List.map_cons, List.map_cons, x]; exact .tail _ (.head _)))) fun c hc hn hm => ?_⟩
  · obtain ⟨mc, ⟨oc, es, ep, hc, _⟩, _⟩ := C.lim
    exact (k _ _ C.low (S.stat.trans hc)).trans hc.symm
  · rcases List.mem_cons.mp hx with rfl | hx
    · exact ⟨_, he, hpe⟩
    rcases List.mem_cons.mp hx with rfl | hx
    · exact ⟨_, hi, hpi⟩
    rcases List.mem_cons.mp hx with rfl | hx
    · exact ⟨_, hT, hpT⟩
    obtain ⟨y, hy, h⟩ := S.led x (.tail _ (.tail _ hx))
    have hm := List.mem_map_of_mem (f := (·.1)) hx
    exact ⟨y, hk _ _ (fun z => n1 (.tail _ (z ▸ hm))) (fun z => n2 (z ▸ hm)) hy, h⟩
  · rcases List.mem_cons.mp hx with rfl | hx
    · exact le
    rcases List.mem_cons.mp hx with rfl | hx
    · exact li
    rcases List.mem_cons.mp hx with rfl | hx
    · exact S.size
    exact S.low x (.tail _ (.tail _ hx))
  · rw [List.map_cons, List.map_cons, List.map_cons, List.nodup_cons, List.nodup_cons, List.nodup_cons]
    refine ⟨fun hm => ?_, fun hm => ?_, fun hm => ?_, n3⟩
    · rcases List.mem_cons.mp hm with h | hm
      · exact n1 (by rw [h]; exact .head _)
      rcases List.mem_cons.mp hm with h | hm
      · exact Nat.lt_irrefl _ (Nat.lt_of_lt_of_eq helt h.symm)
      · exact n1 (.tail _ hm)
    · rcases List.mem_cons.mp hm with h | hm
      · exact Nat.lt_irrefl _ (Nat.lt_of_lt_of_eq hilt h.symm)
      · exact n2 hm
    · exact Nat.lt_irrefl _ (hlt _ hm)
  · rw [List.map_cons, List.map_cons] at hn
    rw [List.map_cons, List.map_cons, List.map_cons] at hm
    rcases List.mem_cons.mp hm with h | hm
    · exact hn (by rw [h]; exact .head _)
    rcases List.mem_cons.mp hm with h | hm
    · exact hn (.tail _ (by rw [h]; exact .head _))
    rcases List.mem_cons.mp hm with h | hm
    · exact Nat.lt_irrefl _ (Nat.lt_of_lt_of_eq hc h.symm)
    exact hn (.tail _ (.tail _ hm))
theorem enum_next {e it : Addr} {i : Nat} {ys : List Value} {E : Value → Shared → Prop} {Q : Option Value → Shared → Prop} (hh : A.handled = none) (S : Sat C ((e, enm it i) :: (it, itr l i) :: τ) s) (hl : (l, .lst ys) ∈ τ)
    (h0 : ys[i]? = none → ∀ s', Sat C ((e, enm it i) :: τ) s' → Q none s')
    (h1 : ∀ p T item s', ys[i]? = some p → Sat C ((e, .raw { cls := .type "enumerate", dict := none, data := .fields #[rawInt (T : Addr), .bool false, .ref it, rawInt ((i : Int) + 1), .none, item], slots := #[] }) :: (it, itr l (i + 1)) :: (T, .tup [.int i 0, p]) :: τ) s' → Q (some (.ref T)) s') :
    wpAny (model prog w) A (pyNext (.ref e)) Q E s := by
  obtain ⟨oe, hoe, old, rfl⟩ := S.get (.head _)
  obtain ⟨oi, hoi, hci, hdi⟩ := S.get (.tail _ (.head _))
  obtain ⟨its, hL, he⟩ := S.isList (.tail _ (.tail _ hl))
  have hlen := lst_len he
  cases hx : its[i]? with
  | none =>
    refine wpAny_pyNext_enum_end hh hoe ⟨oi, hoi, hci, hdi⟩ hL hx fun h' hx' => h0 ?_ _ ((S.perm (List.Perm.swap _ _ _)).ext hx' s.toks)
    rw [List.getElem?_eq_none_iff, ← hlen]; exact Array.getElem?_eq_none_iff.mp hx
  | some x =>
    have hne : e ≠ it := fun z => by
      have nd := S.nd
      rw [List.map_cons, List.nodup_cons] at nd
      exact nd.1 (by rw [z]; exact .head _)
    have hp : ys[i]? = some (er x) := by rw [← he, List.getElem?_map, Array.getElem?_toList, hx]; rfl
    refine wpAny_pyNext_enum_item hoe ⟨oi, hoi, hci, hdi⟩ hL hx hne fun h' he' hit' hT' hz' hk => h1 _ _ x _ hp ?_
    obtain ⟨oi', hoi', hci', hdi'⟩ := hit'
    exact S.turn (p' := .raw _) (q' := itr l (i + 1)) (r := .tup [.int i 0, er x]) hk he' rfl hoi' ⟨hci', hdi'⟩ hT' ⟨_, _, rfl, rfl⟩ (s.toks + 1)
end
set_option maxHeartbeats 1000000
theorem pm22 {α : Type _} (a b c d : α) (r : List α) : (a :: b :: c :: d :: r).Perm (c :: d :: a :: b :: r) := (List.perm_append_comm (l₁ := [a, b]) (l₂ := [c, d])).append_right r
theorem pm3 {α : Type _} (a b c : α) (r : List α) : (a :: b :: c :: r).Perm (c :: a :: b :: r) := (List.perm_append_comm (l₁ := [a, b]) (l₂ := [c])).append_right r
section
variable {prog : Program} {w : World} {C : Cx} {A : Around} {σ τ : Led} {s : Shared} {E : Value → Led → Prop} {env : Env} {elt target iter : Expr} {x y : Str} {px py : Pos} {ifs : List Expr} {gs : List Comprehension} {scope : Scope} {pos spos : Pos}
theorem T_LCuG (cl : List (Str × Addr)) {Q : Flow → Led → Prop}
    (hsw : swapsWith (.ListComp elt (⟨target, iter, ifs, 0⟩ :: gs) scope pos) (some (.Name y py)) spos.line env = Pure.pure true) (hclos : closureFor scope env = Pure.pure cl) (hkind : scope.kind = .function) (hnames : ∀ x ∈ scope.names, x.2 = .local → scope.names.lookup x.1 = some .local)
    (h : T prog w C A σ (eval iter env) (fun xv σ₁ => T prog w C A σ₁ (pyIter xv) (fun it σ₂ => CompT prog w C A σ₂ env (.ListComp elt (⟨target, iter, ifs, 0⟩ :: gs) scope pos) scope cl (newList []) (some (assign (.Name y py) env)) (fun _ => Q .next) E it) E) E)
    (hs : ∀ x, foldedSetIterable iter env x = Pure.pure x := by intro _; rfl) : T prog w C A σ (exec (.Assign [.Name y py] (.ListComp elt (⟨target, iter, ifs, 0⟩ :: gs) scope pos) spos) env) Q E := by
  rw [exec_Assign_Name_used _ _ _ _ hsw]
  refine T.bind (T.standAt (T.bind ?_))
  unfold evalThenUse
  refine T.bind (wpAny_comp_free (Q := fun _ σ' => T prog w C A σ' (Pure.pure ()) (fun _ σ' => T prog w C A σ' (Pure.pure Flow.next) Q E) E) rfl hs hclos hkind hnames (h.mono (fun xv σ₁ h => h.mono (fun it σ₂ h => ?_) fun _ _ e => e) fun _ _ e => e))
  intro s S
  refine wpAny_mono (h s S) (fun acc s₃ h => wpAny_mono h (fun cenv s₄ h => codeAny_mono h fun r s' h => ?_) fun _ _ e => e) fun _ _ e => e
  cases r with
  | error e => exact h
  | ok f =>
    refine wpAny_mono h (fun _ s'' ⟨m, hn, hq⟩ => ⟨m, hn, fun h' hs' => ?_⟩) fun _ _ e => e
    obtain ⟨σ', hq, S'⟩ := hq h' hs'
    exact ⟨σ', T.pure (T.pure hq), S'⟩
noncomputable abbrev enC (elt iter : Expr) (x y : Str) (px py pt : Pos) (k : Nat) (scope : Scope) (pos : Pos) : Expr := .ListComp elt [⟨.Tuple [.Name x px, .Name y py] k pt, iter, [], 0⟩] scope pos
theorem T_compEn {e it l : Addr} {pt : Pos} {k : Nat} {cl : List (Str × Addr)} {Q : Value → Led → Prop} {use : Option (Value → Sem Unit)} (zs : List Int) (f : Nat → Int → Value) (hh : A.handled = none)
    (hl : (l, .lst (intL zs)) ∈ τ) (hz : zs.length ≤ 1000) (hk : scope.kind = .function) (hx : scope.names.lookup x = some .local) (hy : scope.names.lookup y = some .local) (hcell : ∀ y ∈ scope.names, y.2 ≠ .cell)
    (turn : ∀ (D L e it : Addr) (p1 p2 : PO) (i : Nat) (z : Int) ys m, zs[i]? = some z → T prog w C A ((L, .ns ((y, .int z 0) :: (x, .int i 0) :: m)) :: (D, .lst ys) :: (e, p1) :: (it, p2) :: τ) (eval elt (compEnvC scope cl L env)) (fun v σ' => er v = f i z ∧ ((L, .ns ((y, .int z 0) :: (x, .int i 0) :: m)) :: (D, .lst ys) :: (e, p1) :: (it, p2) :: τ).Sublist σ') NoE)
    (fin : FinC prog w C A τ (.lst (zs.mapIdx f)) Q E use) :
    CompT prog w C A ((e, enm it 0) :: (it, itr l 0) :: τ) env (enC elt iter x y px py pt k scope pos) scope cl (newList []) use Q E (.ref e) := by
  intro s S
  unfold CompRestU
  refine wpAny_newObj_type ?_
  have S₁ := S.push (p := .lst []) (o := { cls := .type "list", data := .seq ([] : List Value).toArray }) ⟨_, _, rfl, rfl⟩ rfl s.toks
  generalize hD : s.heap.objs.size = D at S₁
  generalize hs₁ : ({ s with heap := s.heap.push { cls := .type "list", data := .seq ([] : List Value).toArray }, toks := s.toks } : Shared) = s₁ at S₁
  refine wpAny_newFunctionEnv hcell (by intro y hy; simp at hy) (fun h₁ hns hsb => ?_) hk
  obtain ⟨oL, hoL, hpL⟩ := PO.of_ns (m := []) hns (fun x => rfl)
  have kk : ∀ b o, s₁.heap.get? b = some o → h₁.get? b = some o := fun b o e => hsb.extBut b o (Nat.ne_of_lt (Heap.lt_size e)) (Heap.get?_push_of_some _ e)
  have S₂ := S₁.grow kk (Nat.le_refl _) hoL hpL (s₁.toks + ([] : List (Str × Value)).length)
  generalize hL : s₁.heap.objs.size = L at *
  have S₃ := S₂.perm (σ' := (e, enm it 0) :: (it, itr l 0) :: (L, .ns []) :: (D, .lst []) :: τ) (pm22 _ _ _ _ _)
  have hkx : (compEnvC scope cl L env).kindOf x = some .local := lookup_relabel_local hx
  have hky : (compEnvC scope cl L env).kindOf y = some .local := lookup_relabel_local hy
  have hkf : (compEnvC scope cl L env).scope.kind = .function := by simp [compEnvC, relabel, hk]
  have loop : codeAny (model prog w) A (.compLoop (enC elt iter x y px py pt k scope pos) 0 (.ref e) (.ref D) (compEnvC scope cl L env)) (compPost (model prog w) A (fun e s' => ∃ σ', E e σ' ∧ Sat C σ' s') use (fun v s' => ∃ σ', Q v σ' ∧ Sat C σ' s') (.ref D) L)
      { s₁ with heap := h₁, toks := s₁.toks + ([] : List (Str × Value)).length } := by
    refine codeAny_loop rfl (fun n s' => ∃ i m, n + i = zs.length ∧ Sat C ((e, enm it i) :: (it, itr l i) :: (L, .ns m) :: (D, .lst ((zs.mapIdx f).take i)) :: τ) s') (fun n s' hI => ?_) zs.length ⟨0, [], rfl, by rw [List.take_zero]; exact S₃⟩
    obtain ⟨i, m, hi, S'⟩ := hI
    show wpAny _ A ((compTurn (enC elt iter x y px py pt k scope pos) 0 (.ref e) (.ref D) (compEnvC scope cl L env)).onRaise (fun x => do noteFrame x (compEnvC scope cl L env); theTreesLotGoes x)) _ _ s'
    refine wpAny_noted ?_
    rw [compTurn_list]
    refine wpAny_bind (wpAny_standAt (wpAny_bind (enum_next hh S' (.tail _ (.tail _ hl)) (fun hx s₂ S₂ => ?_) fun p TT item s₂ hp S₂ => ?_)))
    · refine wpAny_pure (fin.post (m := m) ?_)
      have hle : zs.length ≤ i := by rw [List.getElem?_eq_none_iff, intL, List.length_map] at hx; exact hx
      rw [List.take_of_length_le (by rw [List.length_mapIdx]; exact hle)] at S₂
      exact S₂.sub (List.sublist_cons_self _ _)
    · have hlt : i < zs.length := by
        have := (List.getElem?_eq_some_iff.mp hp).1
        rwa [intL, List.length_map] at this
      have hz' : zs[i]? = some zs[i] := List.getElem?_eq_getElem hlt
      have hpz : p = .int zs[i] 0 := by
        rw [intL, List.getElem?_map, hz'] at hp
        injection hp with hp; exact hp.symm
      subst hpz
      obtain ⟨oe, hoe, e1⟩ := S₂.get (.head _)
      have e1 : oe = _ := e1
      subst e1
      refine wpAny_bind (wpAny_letOwnedTupleGo_enum hoe fun h' he' hs' => ?_)
      have S₄ := S₂.set (.head (p' := enm it (i + 1))) hs' he' ⟨_, rfl⟩ s₂.toks
      have S₅ := S₄.perm (σ' := (TT, .tup [.int i 0, .int zs[i] 0]) :: (L, .ns m) :: (e, enm it (i + 1)) :: (it, itr l (i + 1)) :: (D, .lst ((zs.mapIdx f).take i)) :: τ) (pm22 _ _ _ _ _)
      refine wpAny_bind (T.kN (E' := _) (T_assignT2 (Q := fun _ σ' => σ' = (TT, .tup [.int i 0, .int zs[i] 0]) :: (L, .ns ((y, .int zs[i] 0) :: (x, .int i 0) :: m)) :: (e, enm it (i + 1)) :: (it, itr l (i + 1)) :: (D, .lst ((zs.mapIdx f).take i)) :: τ) hh (.head _) rfl rfl ?_) S₅ fun _ σ₆ s₆ e6 S₆ => ?_)
      · intro t1 t2
        refine T_assignN ?_
        refine T_stL (.tail .head) hkx hkf ?_
        refine T_assignN ?_
        exact T_stL (.tail .head) hky hkf rfl
      subst e6
      simp only [List.forIn_nil]
      refine wpAny_bind (wpAny_pure ?_)
      rw [if_pos rfl]
      have S₇ := (S₆.sub (List.sublist_cons_self _ _)).perm (σ' := (L, .ns ((y, .int zs[i] 0) :: (x, .int i 0) :: m)) :: (D, .lst ((zs.mapIdx f).take i)) :: (e, enm it (i + 1)) :: (it, itr l (i + 1)) :: τ) ((pm3 _ _ _ _).cons _)
      refine wpAny_bind (wpAny_bind ((turn D L e it (enm it (i + 1)) (itr l (i + 1)) i zs[i] ((zs.mapIdx f).take i) m hz').kN S₇ fun v σ₈ s₈ h₈ S₈ => ?_))
      obtain ⟨hv, hsub⟩ := h₈
      refine wpAny_bind ((T_append (E := NoE) (Q := fun _ σ' => σ' = (L, .ns ((y, .int zs[i] 0) :: (x, .int i 0) :: m)) :: (D, .lst ((zs.mapIdx f).take i ++ [er v])) :: (e, enm it (i + 1)) :: (it, itr l (i + 1)) :: τ) (.tail .head) (by rw [List.length_take]; wtm_at "om") rfl).kN (S₈.sub hsub) fun _ σ₉ s₉ e9 S₉ => ?_)
      subst e9
      refine wpAny_pure (wpAny_pure ⟨rfl, n - 1, by wtm_at "om", i + 1, (y, .int zs[i] 0) :: (x, .int i 0) :: m, by wtm_at "om", ?_⟩)
      have e10 : (zs.mapIdx f).take i ++ [er v] = (zs.mapIdx f).take (i + 1) := by
        rw [List.take_add_one, List.getElem?_mapIdx, hz', hv]; rfl
      rw [e10] at S₉
      exact S₉.perm (pm22 _ _ _ _ _)
  have hpi : wpAny (model prog w) A (pyIter (.ref e)) (fun it' s' => codeAny (model prog w) A (.compLoop (enC elt iter x y px py pt k scope pos) 0 it' (.ref D) (compEnvC scope cl L env)) (compPost (model prog w) A (fun e s' => ∃ σ', E e σ' ∧ Sat C σ' s') use (fun v s' => ∃ σ', Q v σ' ∧ Sat C σ' s') (.ref D) L) s') (notedBy (model prog w) A (compEnvC scope cl L env) fun x s' => compPost (model prog w) A (fun e s' => ∃ σ', E e σ' ∧ Sat C σ' s') use (fun v s' => ∃ σ', Q v σ' ∧ Sat C σ' s') (.ref D) L (.error x) s') { s₁ with heap := h₁, toks := s₁.toks + ([] : List (Str × Value)).length } := by
    obtain ⟨oe, hoe, old, rfl⟩ := S₃.get (.head _)
    exact wpAny_pyIter_enum hoe loop
  exact codeAny_compStart_list loop hpi
end
set_option maxHeartbeats 1000000
noncomputable def slcO (a b c : Value) : Obj := { cls := .type "slice", data := .fields #[a, b, c] }
section
variable {prog : Program} {w : World} {C : Cx} {A : Around} {σ : Led} {E : Value → Led → Prop} {Q : Value → Led → Prop} {env : Env} {l D : Addr} {xs : List Value} {vl vu vs : Value}
theorem T_part0 (h : Q .none σ) : T prog w C A σ (evalPart none env) Q E := by rw [evalPart_none]; exact T.pure h
theorem T_part1 {e : Expr} (h : T prog w C A σ (eval e env) Q E) : T prog w C A σ (evalPart (some e) env) Q E := h
theorem T_slc {lower upper step : Option Expr} {p : Pos} (h : T prog w C A σ (evalPart lower env) (fun vl σ₁ => T prog w C A σ₁ (evalPart upper env) (fun vu σ₂ => T prog w C A σ₂ (evalPart step env) (fun vs σ₃ => ∀ D, Q (.ref D) ((D, .raw (slcO vl vu vs)) :: σ₃)) E) E) E) :
    T prog w C A σ (eval (.Slice lower upper step p) env) Q E := fun _ S =>
  wpAny_Slice (h.k S fun vl σ₁ _ h S => h.k S fun vu σ₂ _ h S => h.k S fun vs σ₃ s h S => ⟨_, h _, S.push (p := .raw (slcO vl vu vs)) rfl rfl s.toks⟩)
theorem T_slcL {value slice : Expr} {ops : List Value} {lo hi st : Option Int} (hD : (D, .raw (slcO vl vu vs)) ∈ σ) (hl : (l, .lst xs) ∈ σ) (hz : xs.length ≤ 1000000) (pl : IsPart vl lo) (pu : IsPart vu hi) (ps : IsPart vs st) (h0 : st ≠ some 0)
    (h : ∀ D, Q (.ref D) ((D, .lst (pick xs lo hi st)) :: σ)) (hs : subscripted slice false (.ref l) (.ref D) = operate ops (getItem (.ref l) (.ref D)) := by with_unfolding_all rfl) : T prog w C A σ (subscriptTail value slice (.ref l) (.ref D)) Q E := fun s S => by
  obtain ⟨items, hL, he⟩ := S.isList hl
  have hn := lst_len he
  obtain ⟨o, ho, e⟩ := S.get hD
  have e : o = _ := e
  subst e
  refine tail_any hL.typeIs slot_list_getitem.lookup (wpAny_getItem_list_slice hL ⟨_, ho, rfl, rfl⟩ pl pu ps h0 ⟨_, h _, ?_⟩ (by rw [sizeLine_eq]; wtm_at "om")) hs
  exact S.push (p := .lst (pick xs lo hi st)) (o := { cls := .type "list", data := .seq (slicePick items lo hi st) }) ⟨_, _, rfl, by rw [pick_er, he]⟩ rfl s.toks S.tk
theorem T_slcO {value slice : Expr} {ops : List Value} {lo hi st : Option Int} {its : Array Value} (hD : (D, .raw (slcO vl vu vs)) ∈ σ) (hO : C.h₀.IsList l its) (hx : its.toList.map er = xs) (hz : xs.length ≤ 1000000) (pl : IsPart vl lo) (pu : IsPart vu hi) (ps : IsPart vs st) (h0 : st ≠ some 0)
    (h : ∀ D, Q (.ref D) ((D, .lst (pick xs lo hi st)) :: σ)) (hs : subscripted slice false (.ref l) (.ref D) = operate ops (getItem (.ref l) (.ref D)) := by with_unfolding_all rfl) : T prog w C A σ (subscriptTail value slice (.ref l) (.ref D)) Q E := fun s S => by
  have hL : s.heap.IsList l its := by
    obtain ⟨o, ho, hc, hd⟩ := hO
    exact ⟨o, S.old.get_of_cls ho (by rw [hc]; simp), hc, hd⟩
  have hn := lst_len hx
  obtain ⟨o, ho, e⟩ := S.get hD
  have e : o = _ := e
  subst e
  refine tail_any hL.typeIs slot_list_getitem.lookup (wpAny_getItem_list_slice hL ⟨_, ho, rfl, rfl⟩ pl pu ps h0 ⟨_, h _, ?_⟩ (by rw [sizeLine_eq]; wtm_at "om")) hs
  exact S.push (p := .lst (pick xs lo hi st)) (o := { cls := .type "list", data := .seq (slicePick its lo hi st) }) ⟨_, _, rfl, by rw [pick_er, hx]⟩ rfl s.toks S.tk
theorem T_slcS {value slice : Expr} {ops : List Value} {x : Str} {t : Tok} {lo hi : Option (Int × Tok)} (hD : (D, .raw (slcO vl vu .none)) ∈ σ) (hl : vl = partValue lo) (hu : vu = partValue hi) (hz : x.length ≤ 1000000)
    (h : ∀ t, Q (.str (Txt.slice x (lo.map (·.1)) (hi.map (·.1))) t) σ) (hs : subscripted slice false (.str x t) (.ref D) = operate ops (getItem (.str x t) (.ref D)) := by with_unfolding_all rfl) : T prog w C A σ (subscriptTail value slice (.str x t) (.ref D)) Q E := fun s S => by
  obtain ⟨o, ho, e⟩ := S.get hD
  have e : o = _ := e
  subst e
  subst hl hu
  refine withTk (tail_any (typeIs_str s x t) PySem.F.slot_str_getitem.lookup (wpAny_getItem_str_slice (l := lo) (u := hi) (st := none) ⟨_, ho, rfl, rfl⟩ rfl (post_val_or_str ⟨Nat.le_trans (Txt.slice_le x _ _) (by rw [sizeLine_eq]; wtm_at "om"), fun t' k hk => ⟨_, h t', S.tok k hk⟩⟩)) hs) S.tk
end
noncomputable def pickG {α : Type} (xs : List α) (lo hi st : Option Int) : List α := (sliceRange (sliceBounds lo hi st xs.length).1 (sliceBounds lo hi st xs.length).2.1 (sliceBounds lo hi st xs.length).2.2).filterMap (xs[·]?)
theorem pick_map {α : Type} (xs : List α) (g : α → Value) (lo hi st : Option Int) : pick (xs.map g) lo hi st = (pickG xs lo hi st).map g := by
  unfold pick slicePick pickG
  simp only [List.size_toArray, List.length_map, List.map_filterMap]
  congr 1
  funext i
  simp
local macro_rules | `(tactic| wtm_at "t_sev") => `(tactic| first
  | wtm_at "t_ev"
  | with_reducible refine T_slc ?_
  | with_reducible refine T_part0 ?_
  | with_reducible refine T_part1 ?_)
local macro_rules | `(tactic| wtm_at "t_run") => `(tactic| repeat (first | wtm_at "t_sev" | (dsimp only; wtm_at "t_sev") | (dsimp only [List.cons_append, List.nil_append, List.map_cons, List.map_nil, er]; wtm_at "t_sev")))
local macro_rules | `(tactic| wtm_at "t_lcg") => `(tactic| ((refine' T_LCuG _ ?lc0 ?lc1 ?lc2 ?lc3 ?_ ?lc5); (case lc0 => exact rfl); (case lc1 => exact rfl); (case lc2 => exact rfl); (case lc3 => decide); (case lc5 => intro _; rfl)))
set_option maxHeartbeats 1000000
noncomputable def lawDef : List Stmt × Scope := match PySem.Challenge.pw_rs0229_03.main.body.getLast? with
  | some (.FunctionDef _ _ body _ _ _ scope _ _ _) => (body, scope)
  | _ => ([], default)
noncomputable abbrev lawB : List Stmt := lawDef.1
noncomputable abbrev lawCells (L : Addr) : List (Str × Addr) := [(Str.ofString "least", L + 1 + 1 + 1 + 1 + 1 + 1 + 1), (Str.ofString "found", L + 1 + 1 + 1 + 1 + 1 + 1), (Str.ofString "text", L + 1 + 1 + 1 + 1 + 1), (Str.ofString "left_out", L + 1 + 1 + 1 + 1), (Str.ofString "small", L + 1 + 1 + 1), (Str.ofString "longer", L + 1 + 1), (Str.ofString "script", L + 1)]
noncomputable abbrev lawEnv (L : Addr) : Env := envX (Str.ofString "law") lawDef.2 L 251 (.ref 250) (lawCells L)
theorem flt_txts {l : List Str} {p : Str → Bool} : List.filterMap (fun v => if p v = true then some (Value.str v 0) else none) l = txts (l.filter p) := by
  unfold txts
  induction l with
  | nil => rfl
  | cons a r ih =>
    rw [List.filterMap_cons, List.filter_cons]
    cases p a <;> simp [ih]
theorem str_beq {x y : Str} : (x.cps.toList == y.cps.toList) = decide (x = y) := by
  rw [Bool.eq_iff_iff, beq_iff_eq, decide_eq_true_eq]
  constructor
  · intro h
    have := Array.toList_inj.mp h
    exact congrArg Str.mk this
  · rintro rfl; rfl
theorem in_flt {l : List Str} {q : Str → Bool} {v : Str} : ((l.filter q).any fun x => x.cps.toList == v.cps.toList) = (decide (v ∈ l) && q v) := by
  rw [Bool.eq_iff_iff, List.any_eq_true, Bool.and_eq_true, decide_eq_true_eq]
  constructor
  · rintro ⟨x, hx, he⟩
    rw [str_beq, decide_eq_true_eq] at he
    subst he
    exact List.mem_filter.mp hx
  · intro h
    exact ⟨v, List.mem_filter.mpr h, by rw [str_beq, decide_eq_true_eq]⟩
theorem flat_others {l : List Str} {q : Str → Bool} : flat l q (fun v => [.str v 0, .str (Str.ofString "_" ++ v) 0, .str (v ++ Str.ofString "_") 0]) (fun _ z => z) = txts ((l.filter q).flatMap fun u => [u, Str.ofString "_" ++ u, u ++ Str.ofString "_"]) := by
  unfold flat
  induction l with
  | nil => rfl
  | cons a r ih =>
    rw [List.flatMap_cons, List.filter_cons, ih]
    cases q a with
    | true =>
      rw [if_pos rfl, if_pos rfl, List.flatMap_cons]
      unfold txts
      rw [List.map_append]; rfl
    | false => rw [if_neg Bool.false_ne_true, if_neg Bool.false_ne_true]; rfl
theorem flt_any {l : List Str} {p : Str → Bool} : decide (l.filter p ≠ []) = l.any p := by
  rw [Bool.eq_iff_iff, decide_eq_true_eq, List.any_eq_true]
  constructor
  · intro h
    obtain ⟨a, ha⟩ := List.exists_mem_of_ne_nil _ h
    exact ⟨a, (List.mem_filter.mp ha).1, (List.mem_filter.mp ha).2⟩
  · rintro ⟨a, ha, hp⟩ e
    have := List.mem_filter.mpr ⟨ha, hp⟩
    rw [e] at this; cases this
section
variable {prog : Program} {w : World} {C : Cx} {A : Around} {σ : Led} {E : Value → Led → Prop} {Q : Value → Led → Prop} {env : Env}
theorem T_assignAll1 {v : Value} {t : Expr} {Q : Unit → Led → Prop} (h : T prog w C A σ (assign t env v) Q E) (hs : (t matches .Starred ..) = false := by rfl) : T prog w C A σ (assignAll v ((assignEach [t] env).map (·.2))) Q E := by
  cases t <;> first | exact h | cases hs
theorem T_subI {a b : Int} {t u : Tok} (h : ∀ t, Q (.int (a - b) t) σ) : T prog w C A σ (binaryOp .Sub (.int a t) (.int b u)) Q E := fun _ S => sub_int ⟨_, h _, S.tok _⟩
theorem T_assignT3 {T' : Addr} {e₁ e₂ e₃ : Expr} {k : Nat} {pos : Pos} {p₁ p₂ p₃ : Value} {Q : Unit → Led → Prop} (hh : A.handled = none) (hT : (T', .tup [p₁, p₂, p₃]) ∈ σ)
    (he : (assignEach [e₁, e₂, e₃] env).map (·.2) = [assign e₁ env, assign e₂ env, assign e₃ env]) (hst : (assignEach [e₁, e₂, e₃] env).findIdx? (·.1) = none)
    (h : Vs p₁ (fun v₁ => Vs p₂ (fun v₂ => Vs p₃ (fun v₃ => T prog w C A σ (assign e₁ env v₁) (fun _ σ₁ => T prog w C A σ₁ (assign e₂ env v₂) (fun _ σ₂ => T prog w C A σ₂ (assign e₃ env v₃) Q E) E) E)))) : T prog w C A σ (assign (.Tuple [e₁, e₂, e₃] k pos) env (.ref T')) Q E := fun s S => by
  obtain ⟨o, ho, its, n, rfl, e⟩ := S.get hT
  have hsz : its.size = 3 := by
    have := congrArg List.length e
    rw [List.length_map, Array.length_toList] at this; exact this
  obtain ⟨v₁, v₂, v₃, rfl⟩ : ∃ v₁ v₂ v₃, its = #[v₁, v₂, v₃] := by
    obtain ⟨l⟩ := its
    cases l with
    | nil => cases hsz
    | cons a r =>
      obtain ⟨b, c, rfl⟩ := two_of (l := r) (by simpa using hsz)
      exact ⟨a, b, c, rfl⟩
  have e1 : er v₁ = p₁ := by injection e
  have e2 : er v₂ = p₂ := by injection e with _ e; injection e
  have e3 : er v₃ = p₃ := by injection e with _ e; injection e with _ e; injection e
  have hl : (assignEach [e₁, e₂, e₃] env).length = 3 := by rw [← List.length_map (f := (·.2)), he]; rfl
  refine wpAny_assign_Tuple hh ⟨_, ho, rfl, n, rfl⟩ hl hst fun h' hx => ?_
  rw [he]
  have S' := S.grown (h' := h') fun b o e => hx b o (Nat.ne_of_lt (Heap.lt_size e)) e
  have z := ((h.get e1).get e2).get e3
  refine wpAny_assignInOrder_more (z.k S' fun _ σ₁ s₁ h₁ S₁ => wpAny_assignInOrder_more (h₁.k S₁ fun _ σ₂ s₂ h₂ S₂ => wpAny_assignInOrder_more (h₂.k S₂ fun _ σ₃ s₃ h₃ S₃ => wpAny_assignInOrder_none ⟨_, h₃, S₃⟩)))
end
set_option maxHeartbeats 1000000
theorem pm78 {α : Type _} (c L D i : α) (r : List α) : (c :: L :: D :: i :: r).Perm (i :: L :: c :: D :: r) := by
  classical
  refine List.perm_iff_count.mpr fun z => ?_
  simp only [List.count_cons]
  ac_rfl
noncomputable def OneCell (scope : Scope) (x : Str) (cl : List (Str × Addr)) (env : Env) : Prop :=
  newFunctionEnv scope env.globals cl [] env.qual none .none (some env) = (alloc { cls := .type "dict", data := .dict #[] } >>= fun L => alloc { cls := .type "cell", data := .cell none } >>= fun c => pure (newEnv scope L env.globals ((x, c) :: cl) env.qual none .none (some env) env.builtins))
section
variable {prog : Program} {w : World} {C : Cx} {A : Around} {σ τ : Led} {s : Shared} {E : Value → Led → Prop} {env : Env}
theorem T_compC {β : Type} {it : Addr} {elt iter : Expr} {x : Str} {px : Pos} {ifs : List Expr} {scope : Scope} {pos : Pos} {cl : List (Str × Addr)} {Q : Value → Led → Prop} {use : Option (Value → Sem Unit)} {po : Nat → PO} {need : Led → Prop} (l : List β) (g : β → Value) (f : β → Option Value)
    (I : Its C prog w A it po (l.map g) need) (hn : need τ) (hz : l.length ≤ 1000000) (hk : scope.kind = .function) (hx : (relabel scope env).names.lookup x = some .cell) (hcell : OneCell scope x cl env)
    (turn : ∀ D L c b ys i m, b ∈ l → T prog w C A ((it, po i) :: (L, .ns m) :: (c, .cel (some (g b))) :: (D, .lst ys) :: τ) (tests ifs (compEnvC scope ((x, c) :: cl) L env)) (fun ok σ₁ =>
      if ok = true then T prog w C A σ₁ (eval elt (compEnvC scope ((x, c) :: cl) L env)) (fun y σ₂ => f b = some (er y) ∧ ((it, po i) :: (L, .ns m) :: (c, .cel (some (g b))) :: (D, .lst ys) :: τ).Sublist σ₂) NoE
      else f b = none ∧ ((it, po i) :: (L, .ns m) :: (c, .cel (some (g b))) :: (D, .lst ys) :: τ).Sublist σ₁) NoE)
    (fin : FinC prog w C A τ (.lst (l.filterMap f)) Q E use) (hneed : ∀ q τ, need τ → need (q :: τ) := by intro _ _ h; first | exact .tail _ h | exact h) :
    CompT prog w C A ((it, po 0) :: τ) env (.ListComp elt [⟨.Name x px, iter, ifs, 0⟩] scope pos) scope cl (newList []) use Q E (.ref it) := by
  intro s S
  unfold CompRestU
  refine wpAny_newObj_type ?_
  have S₁ := S.push (p := .lst []) (o := { cls := .type "list", data := .seq ([] : List Value).toArray }) ⟨_, _, rfl, rfl⟩ rfl s.toks
  generalize hD : s.heap.objs.size = D at S₁
  generalize hs₁ : ({ s with heap := s.heap.push { cls := .type "list", data := .seq ([] : List Value).toArray }, toks := s.toks } : Shared) = s₁ at S₁
  rw [hcell]
  refine wpAny_bind (wpAny_alloc ?_)
  have S₂ := S₁.push (p := .ns []) (o := { cls := .type "dict", data := .dict #[] }) ⟨#[], 0, rfl, fun _ he => by simp at he, fun _ => rfl⟩ rfl s₁.toks
  generalize hL : s₁.heap.objs.size = L at S₂ ⊢
  generalize hs₂ : ({ s₁ with heap := s₁.heap.push { cls := .type "dict", data := .dict #[] } } : Shared) = s₂ at S₂ ⊢
  refine wpAny_bind (wpAny_alloc ?_)
  have S₃ := S₂.push (p := .cel none) (o := { cls := .type "cell", data := .cell none }) ⟨none, rfl, rfl⟩ rfl s₂.toks
  generalize hc : s₂.heap.objs.size = c at S₃ ⊢
  generalize hs₃ : ({ s₂ with heap := s₂.heap.push { cls := .type "cell", data := .cell none } } : Shared) = s₃ at S₃ ⊢
  refine wpAny_pure ?_
  have S₄ := S₃.perm (σ' := (it, po 0) :: (L, .ns []) :: (c, .cel none) :: (D, .lst []) :: τ) (pm78 _ _ _ _ _)
  have hce : (compEnvC scope ((x, c) :: cl) L env).cells.lookup x = some c := by
    show List.lookup x ((x, c) :: cl) = _
    rw [List.lookup_cons, beq_self_eq_true]
  have hke : (compEnvC scope ((x, c) :: cl) L env).kindOf x = some .cell := hx
  have hkf : (compEnvC scope ((x, c) :: cl) L env).scope.kind = .function := by simp [compEnvC, relabel, hk]
  show codeAny (model prog w) A (.compStart (.ListComp elt [⟨.Name x px, iter, ifs, 0⟩] scope pos) 0 (.ref it) (.ref D) (compEnvC scope ((x, c) :: cl) L env)) (compPost (model prog w) A (fun e s' => ∃ σ', E e σ' ∧ Sat C σ' s') use (fun v s' => ∃ σ', Q v σ' ∧ Sat C σ' s') (.ref D) L) s₃
  have loop : codeAny (model prog w) A (.compLoop (.ListComp elt [⟨.Name x px, iter, ifs, 0⟩] scope pos) 0 (.ref it) (.ref D) (compEnvC scope ((x, c) :: cl) L env)) (compPost (model prog w) A (fun e s' => ∃ σ', E e σ' ∧ Sat C σ' s') use (fun v s' => ∃ σ', Q v σ' ∧ Sat C σ' s') (.ref D) L) s₃ := by
    refine codeAny_compLoop_tests (fun k s' => ∃ i v, k + i = l.length ∧ Sat C ((it, po i) :: (L, .ns []) :: (c, .cel v) :: (D, .lst ((l.take i).filterMap f)) :: τ) s') ?_ l.length ⟨0, none, rfl, by rw [List.take_zero]; exact S₄⟩
    rintro k s' ⟨i, v, hk', S'⟩
    refine I.next (hneed _ _ (hneed _ _ (hneed _ _ hn))) S' (fun hx' s₁ S₁ => ?_) fun pv v' hpv hv s₅ S₅ => ?_
    · have hle : l.length ≤ i := by rw [List.getElem?_eq_none_iff, List.length_map] at hx'; exact hx'
      rw [List.take_of_length_le hle] at S₁
      refine fin.post (m := []) (S₁.sub ?_)
      exact List.Sublist.cons_cons _ (List.Sublist.cons _ (List.Sublist.refl _))
    · have hlt : i < l.length := by
        have := (List.getElem?_eq_some_iff.mp hpv).1
        rwa [List.length_map] at this
      have hb : l[i]? = some l[i] := List.getElem?_eq_getElem hlt
      have hpb : pv = g l[i] := by
        rw [List.getElem?_map, hb] at hpv
        injection hpv with hpv; exact hpv.symm
      subst hpb
      have hmem : l[i] ∈ l := List.getElem_mem hlt
      refine wpAny_assign_Name (wpAny_mono ((T_stC (E := NoE) (Q := fun _ σ' => σ' = (it, po (i + 1)) :: (L, .ns []) :: (c, .cel (some (er v'))) :: (D, .lst ((l.take i).filterMap f)) :: τ) hce (.tail (.tail .head)) hke hkf rfl) s₅ S₅) (fun _ s₆ h₆ => ?_) fun _ _ ⟨_, h, _⟩ => h.elim)
      obtain ⟨σ₆, rfl, S₆⟩ := h₆
      rw [hv] at S₆
      have htk : ∀ o, f l[i] = o → (l.take i).filterMap f ++ o.toList = (l.take (i + 1)).filterMap f := by
        intro o ho
        rw [List.take_add_one, hb, List.filterMap_append]
        congr 1
        show _ = List.filterMap f [l[i]]
        rw [List.filterMap_cons, ho, List.filterMap_nil]
        cases o <;> rfl
      refine (turn D L c l[i] _ (i + 1) [] hmem).kN S₆ fun ok σ₇ s₇ h₇ S₇ => ?_
      cases ok with
      | false =>
        obtain ⟨hf, hs⟩ := h₇
        rw [if_neg Bool.false_ne_true]
        refine ⟨k - 1, by wtm_at "om", i + 1, some (g l[i]), by wtm_at "om", ?_⟩
        rw [← htk none hf, Option.toList_none, List.append_nil]
        exact S₇.sub hs
      | true =>
        rw [if_pos rfl] at h₇ ⊢
        refine T.kN (E' := _) h₇ S₇ fun y σ₈ s₈ h₈ S₈ => ?_
        obtain ⟨hf, hs⟩ := h₈
        refine (T_append (E := NoE) (Q := fun _ σ' => σ' = (it, po (i + 1)) :: (L, .ns []) :: (c, .cel (some (g l[i]))) :: (D, .lst ((l.take i).filterMap f ++ [er y])) :: τ) (.tail (.tail (.tail .head))) (by
          have h1 := List.length_filterMap_le f (l.take i)
          have h2 := List.length_take_le i l
          have h3 : (l.take i).length ≤ l.length := by rw [List.length_take]; wtm_at "om"
          wtm_at "om") rfl).kN (S₈.sub hs) fun _ σ₉ s₉ e9 S₉ => ?_
        subst e9
        refine ⟨k - 1, by wtm_at "om", i + 1, some (g l[i]), by wtm_at "om", ?_⟩
        rw [← htk (some (er y)) hf]
        exact S₉
  exact codeAny_compStart_list loop (I.self S₄ loop)
end
set_option maxHeartbeats 1000000
section
variable {prog : Program} {w : World} {C : Cx} {A : Around} {ρ : Led} {E : Value → Led → Prop} {sl L D4 L3 : Addr} {Q : Flow → Led → Prop} {ags : List Str} {n0 n1 n2 n3 n4 : Nat}
theorem law_2 (hK : C.K = KK w.params) (R : Rm 50 A) (h4 : n4 < 10 ^ 6) (ha : ags.length ≤ 4) (hag : ∀ a ∈ ags, (Txt.lower a).length ≤ 10)
    (h : ∀ D6 DL W DW DS, T prog w C A ((D6, .lst (txts (((Wn 3).drop 1).filter (fun v => !(ags.map Txt.lower).any (endsW v)) |>.flatMap fun u => [u, Str.ofString "_" ++ u, u ++ Str.ofString "_"]))) :: (DL, .lst (txts ((Wn 3).filter fun v => (ags.map Txt.lower).any (endsW v)))) :: (W, .lst []) :: (DW, .lst (txts (Wn 3))) :: (DS, .lst (txts (ags.map Txt.lower))) ::
      (L, .ns [(Str.ofString "others", .ref D6), (Str.ofString "written", .ref W), (Str.ofString "words", .ref DW), (Str.ofString "agents", .ref D4), (Str.ofString "numbers", .ref L3)]) :: (D4, .lst (txts ags)) ::
      (L + 1 + 1 + 1 + 1 + 1 + 1 + 1, .cel none) :: (L + 1 + 1 + 1 + 1 + 1 + 1, .cel none) :: (L + 1 + 1 + 1 + 1 + 1, .cel none) :: (L + 1 + 1 + 1 + 1, .cel (some (.ref DL))) :: (L + 1 + 1 + 1, .cel (some (.ref DS))) :: (L + 1 + 1, .cel (some (.str (spellP n4 6) 0))) :: ρ)
      (execs (lawB.drop 6) (lawEnv L)) Q NoE) :
    T prog w C A ((L, .ns [(Str.ofString "agents", .ref D4), (Str.ofString "numbers", .ref L3)]) :: (D4, .lst (txts ags)) :: (L3, .lst [.int n0 0, .int n1 0, .int n2 0, .int n3 0, .int n4 0]) ::
      (L + 1 + 1 + 1 + 1 + 1 + 1 + 1, .cel none) :: (L + 1 + 1 + 1 + 1 + 1 + 1, .cel none) :: (L + 1 + 1 + 1 + 1 + 1, .cel none) :: (L + 1 + 1 + 1 + 1, .cel none) :: (L + 1 + 1 + 1, .cel none) :: (L + 1 + 1, .cel none) :: ρ)
      (execs (lawB.drop 2) (lawEnv L)) Q NoE := by
  refine T_cons ?_
  wtm_at "t_run"
  refine T_itemL (by wtm_at "r_mem") (by decide) (by decide) (pv := .int n4 0) rfl ?_
  intro t4
  wtm_at "t_run"
  refine T_spelled (size := 6) hK (R.le (by decide)) (by wtm_at "om") (by wtm_at "om") fun _ => ?_
  wtm_at "t_run"
  refine T_AssignS ?_ (by exact rfl) (by exact rfl)
  wtm_at "t_run"
  wtm_at "t_lc"
  wtm_at "t_run"
  refine T_iterL (.tail _ (.head _)) fun it => ?_
  refine T_comp ags (fun a => .str a 0) (fun a => some (.str (Txt.lower a) 0)) (itsL R.hand) (.tail _ (.head _)) (by wtm_at "om") rfl rfl (by decide) ?_ ?_
  · intro D L2 a ys i m hm
    have := hag a hm
    wtm_at "t_run"
    refine T_lower (by wtm_at "om") fun _ => ?_
    exact ⟨rfl, List.Sublist.refl _⟩
  · rw [fm_txts]
    intro DS
    wtm_at "t_run"
    refine T_words hK (R.le (by decide)) fun DW => ?_
    wtm_at "t_run"
    rename_i W TT
    refine T_assignAll1 ?_
    refine T_assignT3 R.hand (.head _) rfl rfl ?_
    show T _ _ _ _ _ _ _ _
    wtm_at "t_run"
    wtm_at "t_lc"
    wtm_at "t_run"
    refine T_iterL (by wtm_at "r_mem") fun it => ?_
    refine T_compC (Wn 3) (fun v => .str v 0) (fun v => if (ags.map Txt.lower).any (endsW v) = true then some (.str v 0) else none) (itsL (l := DW) R.hand) (by wtm_at "r_mem") (by decide +kernel) rfl rfl (by with_unfolding_all rfl) ?_ ?_
    · intro D L2 c v ys i m hv
      wtm_at "t_run"
      wtm_at "t_lc"
      wtm_at "t_run"
      refine T_iterL (by wtm_at "r_mem") fun it2 => ?_
      refine T_comp (ags.map Txt.lower) (fun a => .str a 0) (fun a => if endsW v a = true then some (.str a 0) else none) (itsL (l := DS) R.hand) (by wtm_at "r_mem") (by rw [List.length_map]; wtm_at "om") rfl rfl (by decide) ?_ ?_
      · intro D5 L5 a ys i m ha
        wtm_at "t_run"
        cases he : Txt.endswith v a with
        | true =>
          wtm_at "t_run"
          exact ⟨if_pos he, List.Sublist.refl _⟩
        | false =>
          wtm_at "t_run"
          exact ⟨if_neg (by rw [show endsW v a = false from he]; decide), List.Sublist.refl _⟩
      · rw [flt_txts]
        intro D6
        wtm_at "t_run"
        refine T_neTxt (xs := (ags.map Txt.lower).filter (endsW v)) (ys := []) (.tail _ (.head _)) (.head _) R.units ?_
        rw [flt_any]
        wtm_at "t_run"
        cases he : (ags.map Txt.lower).any (endsW v) with
        | true =>
          wtm_at "t_run"
          exact ⟨rfl, by repeat (first | exact List.Sublist.refl _ | apply List.Sublist.cons)⟩
        | false =>
          wtm_at "t_run"
          exact ⟨rfl, by repeat (first | exact List.Sublist.refl _ | apply List.Sublist.cons)⟩
    · rw [flt_txts]
      intro DL
      wtm_at "t_run"
      wtm_at "t_lcg"
      wtm_at "t_run"
      refine T_slcL (.head _) (by wtm_at "r_mem") (by decide +kernel) (.int _ _) .none .none (by decide) fun DT => ?_
      have eT : pick (txts (Wn 3)) (some 1) none none = ((Wn 3).drop 1).map fun v => Value.str v 0 := by decide +kernel
      rw [eT]
      refine T_iterL (.head _) fun it => ?_
      refine T_two ((Wn 3).drop 1) (fun v => .str v 0) (fun v => !(ags.map Txt.lower).any (endsW v)) (fun v => [.str v 0, .str (Str.ofString "_" ++ v) 0, .str (v ++ Str.ofString "_") 0]) (fun _ z => z) (itsL R.hand) (.head _) ?_ rfl rfl rfl rfl (by decide) ?_ ?_
      · rw [flat_others]
        have h1 := List.length_filter_le (fun v => !(ags.map Txt.lower).any (endsW v)) ((Wn 3).drop 1)
        have h2 : ((Wn 3).drop 1).length = 14 := by decide +kernel
        have h3 : ∀ l : List Str, (l.flatMap fun u => [u, Str.ofString "_" ++ u, u ++ Str.ofString "_"]).length = 3 * l.length := by
          intro l
          induction l with
          | nil => rfl
          | cons a r ih => rw [List.flatMap_cons, List.length_append, ih]; simp only [List.length_cons, List.length_nil]; wtm_at "om"
        unfold txts
        rw [List.length_map, h3]
        wtm_at "om"
      · intro D L2 v ys i m hv
        have hvW : v ∈ Wn 3 := List.mem_of_mem_drop hv
        have hv3 := (Wn_short 3 (by decide)).1 v hvW
        have e1 : (Str.ofString "_").length = 1 := rfl
        wtm_at "t_run"
        refine T_notInL (xs := (Wn 3).filter fun v => (ags.map Txt.lower).any (endsW v)) (by wtm_at "r_mem") ?_
        rw [in_flt, decide_eq_true hvW, Bool.true_and]
        wtm_at "t_run"
        cases hq : (ags.map Txt.lower).any (endsW v) with
        | true =>
          wtm_at "t_run"
          exact ⟨rfl, by rw [if_neg (by decide)]; exact List.Sublist.refl _⟩
        | false =>
          refine ifT rfl ?_
          wtm_at "t_run"
          refine ⟨rfl, ?_⟩
          rw [if_pos rfl]
          wtm_at "t_run"
          refine T_addS (by wtm_at "om") fun _ => ?_
          wtm_at "t_run"
          refine T_addS (by wtm_at "om") fun _ => ?_
          wtm_at "t_run"
          rename_i IL
          refine T_iterL (.head _) fun it2 => ?_
          refine ⟨it2, itr IL, fun τ => (IL, .lst [.str v 0, .str (Str.ofString "_" ++ v) 0, .str (v ++ Str.ofString "_") 0]) ∈ τ, (IL, .lst [.str v 0, .str (Str.ofString "_" ++ v) 0, .str (v ++ Str.ofString "_") 0]) :: _, rfl, itsL R.hand, fun _ _ => ?_, List.sublist_cons_self _ _, fun s S => S.perm ?_, fun z ys' m' j' hz hm' => ?_⟩
          · exact .tail _ (.tail _ (.tail _ (.head _)))
          · exact ((List.perm_append_comm (l₁ := [_]) (l₂ := [_, _, _])).append_right _).cons _
          · have hm2 : List.lookup (Str.ofString "name") ((Str.ofString "name", z) :: m') = some z := by
              rw [List.lookup_cons]; rfl
            simp only [List.mem_cons, List.not_mem_nil, or_false] at hz
            rcases hz with rfl | rfl | rfl
            · wtm_at "t_run"
              exact ⟨rfl, List.Sublist.refl _⟩
            · wtm_at "t_run"
              exact ⟨rfl, List.Sublist.refl _⟩
            · wtm_at "t_run"
              exact ⟨rfl, List.Sublist.refl _⟩
      · rw [flat_others]
        intro L6 D6 m6
        wtm_at "t_run"
        refine ⟨m6, _, ?_, h D6 DL W DW DS⟩
        apply List.Sublist.cons_cons
        apply List.Sublist.cons_cons
        apply List.Sublist.cons
        apply List.Sublist.cons
        apply List.Sublist.cons_cons
        apply List.Sublist.cons
        apply List.Sublist.cons_cons
        apply List.Sublist.cons_cons
        apply List.Sublist.cons_cons
        apply List.Sublist.cons_cons
        apply List.Sublist.cons_cons
        apply List.Sublist.cons
        exact List.Sublist.refl _
end
set_option maxHeartbeats 1000000
theorem foldl_len (l : List Str) (a : Nat) : l.foldl (fun n p => n + p.length + (Str.ofString "").length) a = a + (l.map (·.length)).sum := by
  induction l generalizing a with
  | nil => rfl
  | cons x r ih =>
    rw [List.foldl_cons, ih, List.map_cons, List.sum_cons]
    have e0 : (Str.ofString "").length = 0 := rfl
    wtm_at "om"
theorem pm_nw {α : Type} (e dt a d6 dl w : α) (r : List α) : (a :: w :: e :: dt :: d6 :: dl :: r).Perm (e :: dt :: a :: d6 :: dl :: w :: r) := by
  classical
  refine List.perm_iff_count.mpr fun z => ?_
  simp only [List.count_cons]
  ac_rfl
section
variable {prog : Program} {w : World} {C : Cx} {A : Around} {σ : Led} {E : Value → Led → Prop} {env : Env}
theorem T_CallKw1 {func e : Expr} {rest : List Expr} {name : Str} {value : Expr} {kp pos : Pos} {Q : Value → Led → Prop}
    (h : T prog w C A σ (eval func env) (fun f σ₁ => keepIn C.K f = true ∧ T prog w C A σ₁ (spliced (backTo pos (starEach (e :: rest) env))) (fun vs σ₂ => T prog w C A σ₂ (eval value env) (fun k σ₃ => T prog w C A σ₃ (call f vs [(name, k)]) Q E) E) E) E)
    (he : eval (.Call func (e :: rest) [⟨some name, value, kp⟩] pos) env = (do callWith pos (← eval func env) [] (backTo pos (starEach (e :: rest) env)) (backToKw pos (keywordEach [⟨some name, value, kp⟩] env))) := by rfl)
    (hp : ((backTo pos (starEach (e :: rest) env)).any (·.1) || (backToKw pos (keywordEach [⟨some name, value, kp⟩] env)).any (·.1.isNone)) = false := by rfl) (hs : starEach (e :: rest) env = (false, eval e env) :: starEach rest env := by rfl) :
    T prog w C A σ (eval (.Call func (e :: rest) [⟨some name, value, kp⟩] pos) env) Q E := fun s S => by
  rw [he]
  refine wpAny_bind (h.k S fun f σ₁ s₁ h₁ S₁ => ?_)
  obtain ⟨hk, h₁⟩ := h₁
  refine callWith_KW S₁.kin hk rfl (h₁.k S₁ fun vs σ₂ s₂ h₂ S₂ => kwAll_cons (h₂.k S₂ fun k σ₃ s₃ h₃ S₃ => kwAll_nil ⟨S₃.kin, ?_⟩)) hp hs
  exact h₃ _ S₃
end
section
variable {prog : Program} {w : World} {C : Cx} {A : Around} {ρ : Led} {E : Value → Led → Prop} {L D4 L3 D6 DL W DW DS : Addr} {Q : Flow → Led → Prop} {ags sm left oth : List Str} {lg : Str}
theorem law_3 (hK : C.K = KK w.params) (hL : lam03 ∈ C.lams) (R : Rm 50 A) {ex : List Str} {tx : Str} (hex : left.map tagOf ++ oth = ex) (hne : ex ≠ []) (hlen : ex.length ≤ 1000) (hlf : ∀ v ∈ left, v.length ≤ 3) (htx : Builtin.Str.glued (Str.ofString "") (tellP (fun y => ex.any fun z => decide (y = z)) 3 (Str.ofString "") [] []).2 = tx) (htl : tx.length ≤ 100000)
    (h : ∀ DG, T prog w C A ((DG, .lst (List.replicate (cnt 3) .none)) :: (DW, .lst (txts (Wn 3))) :: (DS, .lst (txts sm)) ::
      (L, .ns [(Str.ofString "given", .ref DG), (Str.ofString "others", .ref D6), (Str.ofString "written", .ref W), (Str.ofString "words", .ref DW), (Str.ofString "agents", .ref D4), (Str.ofString "numbers", .ref L3)]) :: (D4, .lst (txts ags)) ::
      (L + 1 + 1 + 1 + 1 + 1 + 1 + 1, .cel none) :: (L + 1 + 1 + 1 + 1 + 1 + 1, .cel none) :: (L + 1 + 1 + 1 + 1 + 1, .cel (some (.str tx 0))) :: (L + 1 + 1 + 1 + 1, .cel (some (.ref DL))) :: (L + 1 + 1 + 1, .cel (some (.ref DS))) :: (L + 1 + 1, .cel (some (.str lg 0))) :: ρ)
      (execs (lawB.drop 8) (lawEnv L)) Q NoE) :
    T prog w C A ((D6, .lst (txts oth)) :: (DL, .lst (txts left)) :: (W, .lst []) :: (DW, .lst (txts (Wn 3))) :: (DS, .lst (txts sm)) ::
      (L, .ns [(Str.ofString "others", .ref D6), (Str.ofString "written", .ref W), (Str.ofString "words", .ref DW), (Str.ofString "agents", .ref D4), (Str.ofString "numbers", .ref L3)]) :: (D4, .lst (txts ags)) ::
      (L + 1 + 1 + 1 + 1 + 1 + 1 + 1, .cel none) :: (L + 1 + 1 + 1 + 1 + 1 + 1, .cel none) :: (L + 1 + 1 + 1 + 1 + 1, .cel none) :: (L + 1 + 1 + 1 + 1, .cel (some (.ref DL))) :: (L + 1 + 1 + 1, .cel (some (.ref DS))) :: (L + 1 + 1, .cel (some (.str lg 0))) :: ρ)
      (execs (lawB.drop 6) (lawEnv L)) Q NoE := by
  refine T_cons ?_
  wtm_at "t_run"
  refine T_CallKw1 ?_
  wtm_at "t_run"
  refine ⟨keep_of hK (by decide), ?_⟩
  wtm_at "t_run"
  refine T_getApp (by wtm_at "r_mem") fun wa => ?_
  wtm_at "t_run"
  wtm_at "t_lc"
  wtm_at "t_run"
  refine T_iterL (by wtm_at "r_mem") fun it => ?_
  have hll : left.length ≤ 1000 := by
    have := congrArg List.length hex
    rw [List.length_append, List.length_map] at this; wtm_at "om"
  have hol : oth.length ≤ 1000 := by
    have := congrArg List.length hex
    rw [List.length_append, List.length_map] at this; wtm_at "om"
  refine T_comp left (fun v => .str v 0) (fun v => some (.str (tagOf v) 0)) (itsL (l := DL) R.hand) (by wtm_at "r_mem") (by wtm_at "om") rfl rfl (by decide) ?_ ?_
  · intro D L2 v ys i m hv
    have := hlf v hv
    have e1 : (Str.ofString "_").length = 1 := rfl
    wtm_at "t_run"
    refine T_addS (by wtm_at "om") fun _ => ?_
    wtm_at "t_run"
    refine T_addS (by rw [Str.length_append]; wtm_at "om") fun _ => ?_
    exact ⟨rfl, List.Sublist.refl _⟩
  · rw [fm_txts]
    intro DT
    wtm_at "t_run"
    refine T_addL (xs := txts (left.map tagOf)) (ys := txts oth) (.head _) (by wtm_at "r_mem") (by unfold txts; rw [List.length_map, List.length_map, List.length_map]; wtm_at "om") fun DE => ?_
    rw [show txts (left.map tagOf) ++ txts oth = txts ex by unfold txts; rw [← hex, List.map_append]]
    refine T.perm (T_newWriter (wa := wa) (wl := W) (el := DE) (ex := ex) (ws := []) (ρ := (DE, .lst (txts ex)) :: _) hK (R.le (by decide)) (.head _) hne hlen fun p p1 p2 p3 p4 p5 p6 p7 p8 p9 p10 p11 => ?_) (List.Perm.symm (pm_nw _ _ _ _ _ _ _))
    wtm_at "t_run"
    refine told hK hL 3 _ _ _ _ _ _ _ (R.le (by decide)) ⟨⟨by wtm_at "om", by rw [p5]; decide, by wtm_at "om", by wtm_at "om", by rw [p4]; decide, by rw [p3]; decide⟩, by wtm_at "om", by rw [p5]; decide, by wtm_at "om", by wtm_at "om", by rw [p3]; decide, .inl p4, fun x => absurd p4 x⟩ rfl all_good fun DG seen dn hs => ?_
    rw [if_pos p9, p4, p3, p10]
    refine T.drop (σ' := (DG, .lst (List.replicate (cnt 3) .none)) :: (W, .lst (txts (tellP (fun y => ex.any fun z => decide (y = z)) 3 (Str.ofString "") [] []).2)) :: (DW, .lst (txts (Wn 3))) :: (DS, .lst (txts sm)) ::
      (L, .ns [(Str.ofString "others", .ref D6), (Str.ofString "written", .ref W), (Str.ofString "words", .ref DW), (Str.ofString "agents", .ref D4), (Str.ofString "numbers", .ref L3)]) :: (D4, .lst (txts ags)) ::
      (L + 1 + 1 + 1 + 1 + 1 + 1 + 1, .cel none) :: (L + 1 + 1 + 1 + 1 + 1 + 1, .cel none) :: (L + 1 + 1 + 1 + 1 + 1, .cel none) :: (L + 1 + 1 + 1 + 1, .cel (some (.ref DL))) :: (L + 1 + 1 + 1, .cel (some (.ref DS))) :: (L + 1 + 1, .cel (some (.str lg 0))) :: ρ) ?_ ?_
    · wtm_at "t_run"
      have e0 : (Str.ofString "").length = 0 := rfl
      have hsz := PySem.size_glued (Str.ofString "") (tellP (fun y => ex.any fun z => decide (y = z)) 3 (Str.ofString "") [] []).2
      rw [e0] at hsz
      refine T_join (.tail _ (.head _)) ?_ (by rw [htx]; wtm_at "om") fun _ => ?_
      · rw [foldl_len, ← htx] at *
        rw [hsz] at htl
        wtm_at "om"
      rw [htx]
      wtm_at "t_st"
      refine T.drop (h DG) ?_
      apply List.Sublist.cons_cons
      apply List.Sublist.cons
      exact List.Sublist.refl _
    · unfold WS.led
      dsimp only
      rw [p5, p2]
      dsimp only [List.cons_append, List.nil_append, List.map_nil]
      apply List.Sublist.cons_cons
      iterate 3 apply List.Sublist.cons
      apply List.Sublist.cons_cons
      iterate 11 apply List.Sublist.cons
      exact List.Sublist.refl _
end
set_option maxHeartbeats 1000000
local macro_rules | `(tactic| wtm_at "r_sl") => `(tactic| repeat (first | with_reducible exact List.Sublist.refl _ | with_reducible apply List.Sublist.cons_cons | apply List.Sublist.cons))
section
variable {prog : Program} {w : World} {C : Cx} {A : Around} {ρ : Led} {E : Value → Led → Prop} {L D4 L3 D6 DL W DW DS DG : Addr} {Q : Flow → Led → Prop} {sm : List Str} {lg tx a0 a1 a2 a3 : Str}
theorem law_4 (hK : C.K = KK w.params) (R : Rm 50 A) (hag : ∀ a ∈ [a0, a1, Str.ofString "*", a2, a3], (Txt.lower a).length ≤ 1000000) (htx : pageP (pgH [a0, a1, Str.ofString "*", a2, a3]) 3 (Str.ofString "") = tx)
    (h : ∀ r u x d, T prog w C A ((r, .lst []) :: (u, .lst (txts [a0, a1, Str.ofString "*", a2, a3])) :: (x, .ins 76 d) :: (d, .idc (entryF u r)) :: (DW, .lst (txts (Wn 3))) :: (DS, .lst (txts sm)) ::
      (L, .ns [(Str.ofString "record", .ref x), (Str.ofString "given", .ref DG), (Str.ofString "others", .ref D6), (Str.ofString "written", .ref W), (Str.ofString "words", .ref DW), (Str.ofString "agents", .ref D4), (Str.ofString "numbers", .ref L3)]) ::
      (L + 1 + 1 + 1 + 1 + 1 + 1 + 1, .cel none) :: (L + 1 + 1 + 1 + 1 + 1 + 1, .cel none) :: (L + 1 + 1 + 1 + 1 + 1, .cel (some (.str tx 0))) :: (L + 1 + 1 + 1 + 1, .cel (some (.ref DL))) :: (L + 1 + 1 + 1, .cel (some (.ref DS))) :: (L + 1 + 1, .cel (some (.str lg 0))) :: ρ)
      (execs (lawB.drop 10) (lawEnv L)) Q NoE) :
    T prog w C A ((DG, .lst (List.replicate (cnt 3) .none)) :: (DW, .lst (txts (Wn 3))) :: (DS, .lst (txts sm)) ::
      (L, .ns [(Str.ofString "given", .ref DG), (Str.ofString "others", .ref D6), (Str.ofString "written", .ref W), (Str.ofString "words", .ref DW), (Str.ofString "agents", .ref D4), (Str.ofString "numbers", .ref L3)]) :: (D4, .lst (txts [a0, a1, a2, a3])) ::
      (L + 1 + 1 + 1 + 1 + 1 + 1 + 1, .cel none) :: (L + 1 + 1 + 1 + 1 + 1 + 1, .cel none) :: (L + 1 + 1 + 1 + 1 + 1, .cel (some (.str tx 0))) :: (L + 1 + 1 + 1 + 1, .cel (some (.ref DL))) :: (L + 1 + 1 + 1, .cel (some (.ref DS))) :: (L + 1 + 1, .cel (some (.str lg 0))) :: ρ)
      (execs (lawB.drop 8) (lawEnv L)) Q NoE := by
  refine T_cons ?_
  wtm_at "t_run"
  refine T_slcL (.head _) (by wtm_at "r_mem") (Nat.le_of_ble_eq_true rfl) .none (.int _ _) .none (by decide) fun DA => ?_
  rw [show pick (txts [a0, a1, a2, a3]) none (some 2) none = txts [a0, a1] from rfl]
  wtm_at "t_run"
  refine T_addL (xs := txts [a0, a1]) (ys := txts [Str.ofString "*"]) (.tail _ (.head _)) (.head _) (Nat.le_of_ble_eq_true rfl) fun DB => ?_
  rw [show txts [a0, a1] ++ txts [Str.ofString "*"] = txts [a0, a1, Str.ofString "*"] from rfl]
  wtm_at "t_run"
  refine T_slcL (.head _) (by wtm_at "r_mem") (Nat.le_of_ble_eq_true rfl) (.int _ _) .none .none (by decide) fun DC => ?_
  rw [show pick (txts [a0, a1, a2, a3]) (some 2) none none = txts [a2, a3] by kernel_rfl!]
  wtm_at "t_run"
  refine T_addL (xs := txts [a0, a1, Str.ofString "*"]) (ys := txts [a2, a3]) (.tail _ (.tail _ (.head _))) (.head _) (Nat.le_of_ble_eq_true rfl) fun DR => ?_
  rw [show txts [a0, a1, Str.ofString "*"] ++ txts [a2, a3] = txts [a0, a1, Str.ofString "*", a2, a3] from rfl]
  wtm_at "t_run"
  refine T_record hK (R.le (by decide)) (.head _) (Nat.le_of_ble_eq_true rfl) fun x d u r => ?_
  wtm_at "t_run"
  refine paged hK (fs := entryF u r) (l := u) (d := d) (by kernel_rfl!) (by kernel_rfl!) hag 3 _ _ _ _ _ _ (R.le (by decide)) (by wtm_at "r_mem") (by wtm_at "r_mem") (by wtm_at "r_mem") rfl all_page fun t => ?_
  rw [htx]
  wtm_at "t_run"
  have e1 : (tx.cps.toList != tx.cps.toList) = false := by simp
  rw [e1]
  wtm_at "t_run"
  wtm_at "t_lc"
  wtm_at "t_run"
  refine T_iterL (by wtm_at "r_mem") fun it => ?_
  refine T_comp (List.replicate (cnt 3) ()) (fun _ => .none) (fun _ => none) (by rw [List.map_replicate]; exact itsL (l := DG) R.hand) (by wtm_at "r_mem") (by rw [List.length_replicate]; decide) rfl rfl (by decide) ?_ ?_
  · intro D L2 b ys i m hb
    wtm_at "t_run"
    exact ⟨rfl, List.Sublist.refl _⟩
  · rw [show List.filterMap (fun _ => (none : Option Value)) (List.replicate (cnt 3) ()) = txts [] by kernel_rfl!]
    intro DF
    wtm_at "t_run"
    refine T_neTxt (xs := []) (ys := []) (.tail _ (.head _)) (.head _) R.units ?_
    rw [show decide (([] : List Str) ≠ []) = false from rfl]
    wtm_at "t_ev"
    refine ifF rfl ?_
    refine T_tOr0 ?_
    refine ifF rfl ?_
    refine T_nil ?_
    refine T.drop (h r u x d) ?_
    wtm_at "r_sl"
end
set_option maxHeartbeats 1000000
noncomputable def inF (fd : List Str) (v : Str) : Bool := fd.any fun x => x.cps.toList == v.cps.toList
noncomputable def tailS (v : Str) : Str := Txt.slice v (some 1) none
noncomputable def initS (v : Str) : Str := Txt.slice v none (some (-1))
noncomputable def fndP (tx : Str) (v : Str) : Bool := Txt.contains tx (Str.ofString "<_" ++ v ++ Str.ofString "_>")
noncomputable def holeP (fd : List Str) (v : Str) : Bool := !inF fd v && (inF fd (tailS v) && inF fd (initS v))
section
variable {prog : Program} {w : World} {C : Cx} {A : Around} {σ : Led} {E : Value → Led → Prop} {Q : Value → Led → Prop} {D : Addr}
theorem T_slcS1 {value slice : Expr} {ops : List Value} {x : Str} {t ti : Tok} {i : Int} (hD : (D, .raw (slcO (.int i ti) .none .none)) ∈ σ) (hz : x.length ≤ 1000000) (h : ∀ t, Q (.str (Txt.slice x (some i) none) t) σ)
    (hs : subscripted slice false (.str x t) (.ref D) = operate ops (getItem (.str x t) (.ref D)) := by with_unfolding_all rfl) : T prog w C A σ (subscriptTail value slice (.str x t) (.ref D)) Q E := T_slcS (lo := some (i, ti)) (hi := none) hD rfl rfl hz h hs
theorem T_slcS2 {value slice : Expr} {ops : List Value} {x : Str} {t ti : Tok} {i : Int} (hD : (D, .raw (slcO .none (.int i ti) .none)) ∈ σ) (hz : x.length ≤ 1000000) (h : ∀ t, Q (.str (Txt.slice x none (some i)) t) σ)
    (hs : subscripted slice false (.str x t) (.ref D) = operate ops (getItem (.str x t) (.ref D)) := by with_unfolding_all rfl) : T prog w C A σ (subscriptTail value slice (.str x t) (.ref D)) Q E := T_slcS (lo := none) (hi := some (i, ti)) hD rfl rfl hz h hs
theorem T_slcS3 {value slice : Expr} {ops : List Value} {x : Str} {t ti tj : Tok} {i j : Int} (hD : (D, .raw (slcO (.int i ti) (.int j tj) .none)) ∈ σ) (hz : x.length ≤ 1000000) (h : ∀ t, Q (.str (Txt.slice x (some i) (some j)) t) σ)
    (hs : subscripted slice false (.str x t) (.ref D) = operate ops (getItem (.str x t) (.ref D)) := by with_unfolding_all rfl) : T prog w C A σ (subscriptTail value slice (.str x t) (.ref D)) Q E := T_slcS (lo := some (i, ti)) (hi := some (j, tj)) hD rfl rfl hz h hs
theorem T_isB {a b : Bool} (h : Q (.bool (a == b)) σ) : T prog w C A σ (compareOp .Is (.bool a) (.bool b)) Q E := fun _ S => wpAny_is_plain rfl ⟨_, by rw [show (Value.bool a == Value.bool b) = (a == b) by cases a <;> cases b <;> rfl]; exact h, S⟩
theorem T_isNB {a b : Bool} (h : Q (.bool (!(a == b))) σ) : T prog w C A σ (compareOp .IsNot (.bool a) (.bool b)) Q E := fun _ S => wpAny_isNot_plain rfl ⟨_, by rw [show (Value.bool a == Value.bool b) = (a == b) by cases a <;> cases b <;> rfl]; exact h, S⟩
end
section
variable {prog : Program} {w : World} {C : Cx} {A : Around} {ρ : Led} {E : Value → Led → Prop} {L D4 L3 D6 DL W DW DS DG r u x d : Addr} {Q : Flow → Led → Prop} {ags sm : List Str} {lg tx : Str}
theorem law_5 (hK : C.K = KK w.params) (R : Rm 50 A)
    (h : ∀ DFd DH, T prog w C A ((DH, .lst (txts ((Wn 3).filter (holeP ((Wn 3).filter (fndP tx)))))) :: (DFd, .lst (txts ((Wn 3).filter (fndP tx)))) :: (r, .lst []) :: (u, .lst (txts ags)) :: (x, .ins 76 d) :: (d, .idc (entryF u r)) :: (DW, .lst (txts (Wn 3))) :: (DS, .lst (txts sm)) ::
      (L, .ns [(Str.ofString "holes", .ref DH), (Str.ofString "record", .ref x), (Str.ofString "given", .ref DG), (Str.ofString "others", .ref D6), (Str.ofString "written", .ref W), (Str.ofString "words", .ref DW), (Str.ofString "agents", .ref D4), (Str.ofString "numbers", .ref L3)]) ::
      (L + 1 + 1 + 1 + 1 + 1 + 1 + 1, .cel none) :: (L + 1 + 1 + 1 + 1 + 1 + 1, .cel (some (.ref DFd))) :: (L + 1 + 1 + 1 + 1 + 1, .cel (some (.str tx 0))) :: (L + 1 + 1 + 1 + 1, .cel (some (.ref DL))) :: (L + 1 + 1 + 1, .cel (some (.ref DS))) :: (L + 1 + 1, .cel (some (.str lg 0))) :: ρ)
      (execs (lawB.drop 12) (lawEnv L)) Q NoE) :
    T prog w C A ((r, .lst []) :: (u, .lst (txts ags)) :: (x, .ins 76 d) :: (d, .idc (entryF u r)) :: (DW, .lst (txts (Wn 3))) :: (DS, .lst (txts sm)) ::
      (L, .ns [(Str.ofString "record", .ref x), (Str.ofString "given", .ref DG), (Str.ofString "others", .ref D6), (Str.ofString "written", .ref W), (Str.ofString "words", .ref DW), (Str.ofString "agents", .ref D4), (Str.ofString "numbers", .ref L3)]) ::
      (L + 1 + 1 + 1 + 1 + 1 + 1 + 1, .cel none) :: (L + 1 + 1 + 1 + 1 + 1 + 1, .cel none) :: (L + 1 + 1 + 1 + 1 + 1, .cel (some (.str tx 0))) :: (L + 1 + 1 + 1 + 1, .cel (some (.ref DL))) :: (L + 1 + 1 + 1, .cel (some (.ref DS))) :: (L + 1 + 1, .cel (some (.str lg 0))) :: ρ)
      (execs (lawB.drop 10) (lawEnv L)) Q NoE := by
  refine T_cons ?_
  wtm_at "t_run"
  wtm_at "t_lc"
  wtm_at "t_run"
  refine T_iterL (by wtm_at "r_mem") fun it => ?_
  refine T_comp (Wn 3) (fun v => .str v 0) (fun v => if fndP tx v = true then some (.str v 0) else none) (itsL (l := DW) R.hand) (by wtm_at "r_mem") (by decide +kernel) rfl rfl (by decide) ?_ ?_
  · intro D L2 v ys i m hv
    have hv3 := (Wn_short 3 (by decide)).1 v hv
    have e1 : (Str.ofString "<_").length = 2 := rfl
    have e2 : (Str.ofString "_>").length = 2 := rfl
    wtm_at "t_run"
    refine T_addS (by wtm_at "om") fun _ => ?_
    wtm_at "t_run"
    refine T_addS (by rw [Str.length_append]; wtm_at "om") fun _ => ?_
    wtm_at "t_run"
    cases he : Txt.contains tx (Str.ofString "<_" ++ v ++ Str.ofString "_>") with
    | true =>
      refine ifT rfl ?_
      wtm_at "t_run"
      exact ⟨if_pos he, List.Sublist.refl _⟩
    | false =>
      refine ifF rfl ?_
      wtm_at "t_run"
      exact ⟨if_neg (by rw [show fndP tx v = false from he]; decide), List.Sublist.refl _⟩
  · rw [flt_txts]
    generalize (Wn 3).filter (fndP tx) = fd at h ⊢
    intro DFd
    wtm_at "t_run"
    wtm_at "t_lcg"
    wtm_at "t_run"
    refine T_iterL (by wtm_at "r_mem") fun it => ?_
    refine T_comp (Wn 3) (fun v => .str v 0) (fun v => if holeP fd v = true then some (.str v 0) else none) (itsL (l := DW) R.hand) (by wtm_at "r_mem") (by decide +kernel) rfl rfl (by decide) ?_ ?_
    · intro D L2 v ys i m hv
      have hv3 := (Wn_short 3 (by decide)).1 v hv
      wtm_at "t_run"
      refine T_notInL (xs := fd) (by wtm_at "r_mem") ?_
      rw [show (fd.any fun x => x.cps.toList == v.cps.toList) = inF fd v from rfl]
      wtm_at "t_run"
      cases h1 : inF fd v with
      | true =>
        refine ifF rfl ?_
        wtm_at "t_run"
        exact ⟨if_neg (by unfold holeP; rw [h1]; exact Bool.false_ne_true), List.Sublist.refl _⟩
      | false =>
        refine ifT rfl ?_
        wtm_at "t_run"
        refine T_slcS1 (.head _) (by wtm_at "om") fun _ => ?_
        wtm_at "t_run"
        refine T_inL (xs := fd) (by wtm_at "r_mem") ?_
        rw [show (fd.any fun x => x.cps.toList == (Txt.slice v (some 1) none).cps.toList) = inF fd (tailS v) from rfl]
        wtm_at "t_run"
        cases h2 : inF fd (tailS v) with
        | false =>
          refine ifF rfl ?_
          wtm_at "t_run"
          exact ⟨if_neg (by unfold holeP; rw [h1, h2]; exact Bool.false_ne_true), by wtm_at "r_sl"⟩
        | true =>
          refine ifT rfl ?_
          wtm_at "t_run"
          refine T_slcS2 (.head _) (by wtm_at "om") fun _ => ?_
          wtm_at "t_run"
          refine T_inL (xs := fd) (by wtm_at "r_mem") ?_
          rw [show (fd.any fun x => x.cps.toList == (Txt.slice v none (some (-1))).cps.toList) = inF fd (initS v) from rfl]
          wtm_at "t_run"
          cases h3 : inF fd (initS v) with
          | false =>
            refine ifF rfl ?_
            wtm_at "t_run"
            exact ⟨if_neg (by unfold holeP; rw [h1, h2, h3]; exact Bool.false_ne_true), by wtm_at "r_sl"⟩
          | true =>
            refine ifT rfl ?_
            wtm_at "t_run"
            exact ⟨if_pos (by unfold holeP; rw [h1, h2, h3]; rfl), by wtm_at "r_sl"⟩
    · rw [flt_txts]
      intro L6 D6 m6
      wtm_at "t_run"
      refine ⟨m6, _, ?_, h DFd D6⟩
      dsimp only [er]
      wtm_at "r_sl"
end
set_option maxHeartbeats 1000000
section
variable {prog : Program} {w : World} {C : Cx} {A : Around} {σ : Led} {E : Value → Led → Prop} {Q : Value → Led → Prop} {l b : Addr}
theorem all_eq {xs ys : List Str} (hn : xs.length = ys.length) : ((List.range xs.length).all fun j => (xs.getD j Str.empty).cps.toList == (ys.getD j Str.empty).cps.toList) = decide (xs = ys) := by
  by_cases e : xs = ys
  · subst e; simp
  · rw [decide_eq_false e, List.all_eq_false]
    apply Classical.byContradiction
    intro hno
    refine e (List.ext_getElem hn fun j h1 h2 => ?_)
    apply Classical.byContradiction
    intro hne
    refine hno ⟨j, List.mem_range.mpr h1, ?_⟩
    rw [List.getD_eq_getElem?_getD, List.getD_eq_getElem?_getD, List.getElem?_eq_getElem h1, List.getElem?_eq_getElem h2]
    intro hc
    refine hne ?_
    have hc := beq_iff_eq.mp hc
    cases hx : xs[j]; cases hy : ys[j]
    simp only [Option.getD_some, hx, hy] at hc
    rw [Array.toList_inj.mp hc]
theorem T_eqTxt {xs ys : List Str} (hl : (l, .lst (txts xs)) ∈ σ) (hb : (b, .lst (txts ys)) ∈ σ) (hu : A.units < cLine) (h : Q (.bool (decide (xs = ys))) σ) : T prog w C A σ (compareOp .Eq (.ref l) (.ref b)) Q E := fun s S => by
  obtain ⟨its, hL, he⟩ := S.isList hl
  obtain ⟨its2, hL2, he2⟩ := S.isList hb
  have n1 := lst_len he
  have n2 := lst_len he2
  rw [List.length_map] at n1 n2
  by_cases hn : xs.length = ys.length
  · refine SeqAt.eq_listAt (e := fun j => (xs.getD j Str.empty).cps.toList == (ys.getD j Str.empty).cps.toList) hL hL2 (by wtm_at "om") hu (fun j h1 h2 => ?_) ?_
    · obtain ⟨t, e⟩ := str_of_txts he j h1
      obtain ⟨t', e'⟩ := str_of_txts he2 j h2
      rw [e, e']
      exact MeetsSeq.EqGives.at (SeqRoads2.EqGives.str _ _ t t') _ _
    · rw [n1, all_eq hn]; exact ⟨_, h, S⟩
  · have : decide (xs = ys) = false := decide_eq_false fun e => hn (by rw [e])
    rw [this] at h
    exact SeqAt.eq_list_lengthsAt hL hL2 (by rw [n1, n2]; simpa using hn) hu ⟨_, h, S⟩
end
set_option maxHeartbeats 1000000
noncomputable def lesserP (v : Str) (o : Str) : Bool := (o.cps.toList != v.cps.toList) && Txt.contains v o
noncomputable def leastP (sm : List Str) (v : Str) : Bool := inF sm v && !sm.any (lesserP v)
theorem flt_none {l : List Str} {p : Str → Bool} : decide (l.filter p = []) = !l.any p := by
  have := flt_any (l := l) (p := p)
  rw [← this]
  by_cases e : l.filter p = []
  · rw [decide_eq_true e, decide_eq_false (fun h => h e)]; rfl
  · rw [decide_eq_false e, decide_eq_true e]; rfl
section
variable {prog : Program} {w : World} {C : Cx} {A : Around} {ρ : Led} {E : Value → Led → Prop} {L D4 L3 D6 DL W DW DS DG r u x d DH DFd : Addr} {Q : Flow → Led → Prop} {ags sm fd hs : List Str} {lg tx : Str}
theorem law_6 (hK : C.K = KK w.params) (R : Rm 50 A) (hsm : sm.length ≤ 100) (hhs : hs.length ≤ 1000)
    (h : ∀ DLe x2 d2 u2 r2, T prog w C A ((r2, .lst []) :: (u2, .lst (txts hs)) :: (x2, .ins 76 d2) :: (d2, .idc (entryF u2 r2)) :: (DLe, .lst (txts ((Wn 3).filter (leastP sm)))) :: (DFd, .lst (txts fd)) :: (r, .lst []) :: (u, .lst (txts ags)) :: (x, .ins 76 d) :: (d, .idc (entryF u r)) :: (DW, .lst (txts (Wn 3))) :: (DS, .lst (txts sm)) ::
      (L, .ns [(Str.ofString "back", .ref x2), (Str.ofString "holes", .ref DH), (Str.ofString "record", .ref x), (Str.ofString "given", .ref DG), (Str.ofString "others", .ref D6), (Str.ofString "written", .ref W), (Str.ofString "words", .ref DW), (Str.ofString "agents", .ref D4), (Str.ofString "numbers", .ref L3)]) ::
      (L + 1 + 1 + 1 + 1 + 1 + 1 + 1, .cel (some (.ref DLe))) :: (L + 1 + 1 + 1 + 1 + 1 + 1, .cel (some (.ref DFd))) :: (L + 1 + 1 + 1 + 1 + 1, .cel (some (.str tx 0))) :: (L + 1 + 1 + 1 + 1, .cel (some (.ref DL))) :: (L + 1 + 1 + 1, .cel (some (.ref DS))) :: (L + 1 + 1, .cel (some (.str lg 0))) :: ρ)
      (execs (lawB.drop 14) (lawEnv L)) Q NoE) :
    T prog w C A ((DH, .lst (txts hs)) :: (DFd, .lst (txts fd)) :: (r, .lst []) :: (u, .lst (txts ags)) :: (x, .ins 76 d) :: (d, .idc (entryF u r)) :: (DW, .lst (txts (Wn 3))) :: (DS, .lst (txts sm)) ::
      (L, .ns [(Str.ofString "holes", .ref DH), (Str.ofString "record", .ref x), (Str.ofString "given", .ref DG), (Str.ofString "others", .ref D6), (Str.ofString "written", .ref W), (Str.ofString "words", .ref DW), (Str.ofString "agents", .ref D4), (Str.ofString "numbers", .ref L3)]) ::
      (L + 1 + 1 + 1 + 1 + 1 + 1 + 1, .cel none) :: (L + 1 + 1 + 1 + 1 + 1 + 1, .cel (some (.ref DFd))) :: (L + 1 + 1 + 1 + 1 + 1, .cel (some (.str tx 0))) :: (L + 1 + 1 + 1 + 1, .cel (some (.ref DL))) :: (L + 1 + 1 + 1, .cel (some (.ref DS))) :: (L + 1 + 1, .cel (some (.str lg 0))) :: ρ)
      (execs (lawB.drop 12) (lawEnv L)) Q NoE := by
  refine T_cons ?_
  wtm_at "t_run"
  wtm_at "t_lc"
  wtm_at "t_run"
  refine T_iterL (by wtm_at "r_mem") fun it => ?_
  refine T_compC (Wn 3) (fun v => .str v 0) (fun v => if leastP sm v = true then some (.str v 0) else none) (itsL (l := DW) R.hand) (by wtm_at "r_mem") (by decide +kernel) rfl rfl (by with_unfolding_all rfl) ?_ ?_
  · intro D L2 c v ys i m hv
    wtm_at "t_run"
    refine T_inL (xs := sm) (by wtm_at "r_mem") ?_
    rw [show (sm.any fun x => x.cps.toList == v.cps.toList) = inF sm v from rfl]
    wtm_at "t_run"
    cases h1 : inF sm v with
    | false =>
      refine ifF rfl ?_
      wtm_at "t_run"
      exact ⟨if_neg (by unfold leastP; rw [h1]; exact Bool.false_ne_true), List.Sublist.refl _⟩
    | true =>
      refine ifT rfl ?_
      wtm_at "t_run"
      wtm_at "t_lc"
      wtm_at "t_run"
      refine T_iterL (by wtm_at "r_mem") fun it2 => ?_
      refine T_comp sm (fun a => .str a 0) (fun a => if lesserP v a = true then some (.str a 0) else none) (itsL (l := DS) R.hand) (by wtm_at "r_mem") (by wtm_at "om") rfl rfl (by decide) ?_ ?_
      · intro D5 L5 a ys i m ha
        wtm_at "t_run"
        cases h2 : (a.cps.toList != v.cps.toList) with
        | false =>
          refine ifF rfl ?_
          wtm_at "t_run"
          exact ⟨if_neg (by unfold lesserP; rw [h2]; exact Bool.false_ne_true), List.Sublist.refl _⟩
        | true =>
          refine ifT rfl ?_
          wtm_at "t_run"
          cases h3 : Txt.contains v a with
          | false =>
            refine ifF rfl ?_
            wtm_at "t_run"
            exact ⟨if_neg (by unfold lesserP; rw [h2, h3]; exact Bool.false_ne_true), List.Sublist.refl _⟩
          | true =>
            refine ifT rfl ?_
            wtm_at "t_run"
            exact ⟨if_pos (by unfold lesserP; rw [h2, h3]; rfl), List.Sublist.refl _⟩
      · rw [flt_txts]
        intro D6
        wtm_at "t_run"
        refine T_eqTxt (xs := sm.filter (lesserP v)) (ys := []) (.tail _ (.head _)) (.head _) R.units ?_
        rw [flt_none]
        wtm_at "t_run"
        cases h2 : sm.any (lesserP v) with
        | true =>
          refine ifF rfl ?_
          wtm_at "t_run"
          exact ⟨if_neg (by unfold leastP; rw [h1, h2]; exact Bool.false_ne_true), by wtm_at "r_sl"⟩
        | false =>
          refine ifT rfl ?_
          wtm_at "t_run"
          exact ⟨if_pos (by unfold leastP; rw [h1, h2]; rfl), by wtm_at "r_sl"⟩
  · rw [flt_txts]
    intro DLe
    wtm_at "t_run"
    refine T_record hK (R.le (by decide)) (by wtm_at "r_mem") hhs fun x2 d2 u2 r2 => ?_
    wtm_at "t_st"
    refine T.drop (h DLe x2 d2 u2 r2) ?_
    dsimp only [er]
    wtm_at "r_sl"
end
set_option maxHeartbeats 1000000
theorem ask_ok : ∀ v ∈ Wn 3, (v ++ Str.ofString "/").length ≤ 1000000 ∧ (Txt.split (v ++ Str.ofString "/") (Str.ofString "/")).length ≤ 1000000 ∧ (asked (v ++ Str.ofString "/")).length ≤ 1000000 := by
  have : ((Wn 3).all fun v => decide ((v ++ Str.ofString "/").length ≤ 1000000 ∧ (Txt.split (v ++ Str.ofString "/") (Str.ofString "/")).length ≤ 1000000 ∧ (asked (v ++ Str.ofString "/")).length ≤ 1000000)) = true := by decide +kernel
  intro v hv
  exact of_decide_eq_true (List.all_eq_true.mp this v hv)
section
variable {prog : Program} {w : World} {C : Cx} {A : Around} {ρ : Led} {E : Value → Led → Prop} {L D4 L3 D6 DL W DW DS DG r u x d DH DFd DLe x2 d2 u2 r2 : Addr} {Q : Flow → Led → Prop} {ags sm fd hs ls : List Str} {lg tx : Str}
theorem law_7 (hK : C.K = KK w.params) (R : Rm 50 A) (hsm : sm.length ≤ 100) (hhs : hs.length ≤ 1000) (hm : (sm.filter fun y => hs.any fun z => decide (y = z)) = sm.filter (inF ls))
    (h : T prog w C A ((r2, .lst []) :: (u2, .lst (txts hs)) :: (x2, .ins 76 d2) :: (d2, .idc (entryF u2 r2)) :: (DFd, .lst (txts fd)) :: (r, .lst []) :: (u, .lst (txts ags)) :: (x, .ins 76 d) :: (d, .idc (entryF u r)) :: (DW, .lst (txts (Wn 3))) ::
      (L, .ns [(Str.ofString "back", .ref x2), (Str.ofString "holes", .ref DH), (Str.ofString "record", .ref x), (Str.ofString "given", .ref DG), (Str.ofString "others", .ref D6), (Str.ofString "written", .ref W), (Str.ofString "words", .ref DW), (Str.ofString "agents", .ref D4), (Str.ofString "numbers", .ref L3)]) ::
      (L + 1 + 1 + 1 + 1 + 1 + 1 + 1, .cel (some (.ref DLe))) :: (L + 1 + 1 + 1 + 1 + 1 + 1, .cel (some (.ref DFd))) :: (L + 1 + 1 + 1 + 1 + 1, .cel (some (.str tx 0))) :: (L + 1 + 1 + 1 + 1, .cel (some (.ref DL))) :: (L + 1 + 1 + 1, .cel (some (.ref DS))) :: (L + 1 + 1, .cel (some (.str lg 0))) :: ρ)
      (execs (lawB.drop 15) (lawEnv L)) Q NoE) :
    T prog w C A ((r2, .lst []) :: (u2, .lst (txts hs)) :: (x2, .ins 76 d2) :: (d2, .idc (entryF u2 r2)) :: (DLe, .lst (txts ls)) :: (DFd, .lst (txts fd)) :: (r, .lst []) :: (u, .lst (txts ags)) :: (x, .ins 76 d) :: (d, .idc (entryF u r)) :: (DW, .lst (txts (Wn 3))) :: (DS, .lst (txts sm)) ::
      (L, .ns [(Str.ofString "back", .ref x2), (Str.ofString "holes", .ref DH), (Str.ofString "record", .ref x), (Str.ofString "given", .ref DG), (Str.ofString "others", .ref D6), (Str.ofString "written", .ref W), (Str.ofString "words", .ref DW), (Str.ofString "agents", .ref D4), (Str.ofString "numbers", .ref L3)]) ::
      (L + 1 + 1 + 1 + 1 + 1 + 1 + 1, .cel (some (.ref DLe))) :: (L + 1 + 1 + 1 + 1 + 1 + 1, .cel (some (.ref DFd))) :: (L + 1 + 1 + 1 + 1 + 1, .cel (some (.str tx 0))) :: (L + 1 + 1 + 1 + 1, .cel (some (.ref DL))) :: (L + 1 + 1 + 1, .cel (some (.ref DS))) :: (L + 1 + 1, .cel (some (.str lg 0))) :: ρ)
      (execs (lawB.drop 14) (lawEnv L)) Q NoE := by
  refine T_cons ?_
  wtm_at "t_run"
  refine T_record hK (R.le (by decide)) (by wtm_at "r_mem") (by wtm_at "om") fun x3 d3 u3 r3 => ?_
  wtm_at "t_run"
  refine T_merge hK (R.le (by decide)) (by wtm_at "r_mem") (by wtm_at "r_mem") (by wtm_at "r_mem") (by wtm_at "r_mem") (by wtm_at "r_mem") (by wtm_at "r_mem") (by wtm_at "r_mem") (by wtm_at "r_mem") (by wtm_at "om") hhs fun x4 d4 u4 fs hfs => ?_
  rw [hm]
  wtm_at "t_run"
  wtm_at "t_lc"
  wtm_at "t_run"
  refine T_iterL (by wtm_at "r_mem") fun it2 => ?_
  refine T_comp sm (fun a => .str a 0) (fun a => if inF ls a = true then some (.str a 0) else none) (itsL (l := DS) R.hand) (by wtm_at "r_mem") (by wtm_at "om") rfl rfl (by decide) ?_ ?_
  · intro D5 L5 a ys i m ha
    wtm_at "t_run"
    refine T_inL (xs := ls) (by wtm_at "r_mem") ?_
    rw [show (ls.any fun x => x.cps.toList == a.cps.toList) = inF ls a from rfl]
    wtm_at "t_run"
    cases h2 : inF ls a with
    | false =>
      refine ifF rfl ?_
      wtm_at "t_run"
      exact ⟨if_neg Bool.false_ne_true, List.Sublist.refl _⟩
    | true =>
      refine ifT rfl ?_
      wtm_at "t_run"
      exact ⟨if_pos rfl, List.Sublist.refl _⟩
  · rw [flt_txts]
    intro DC
    wtm_at "t_run"
    refine T_neTxt (xs := sm.filter (inF ls)) (ys := sm.filter (inF ls)) (by wtm_at "r_mem") (.head _) R.units ?_
    rw [show decide (sm.filter (inF ls) ≠ sm.filter (inF ls)) = false by simp]
    wtm_at "t_ev"
    refine ifF rfl ?_
    refine T_nil ?_
    refine T.drop h ?_
    wtm_at "r_sl"
theorem law_8 (hK : C.K = KK w.params) (R : Rm 50 A) (hag : ∀ a ∈ hs, (Txt.lower a).length ≤ 1000000) (hb : ∀ v ∈ Wn 3, hs.any (hits (asked (v ++ Str.ofString "/"))) = !inF fd v)
    (h : ∀ m, m.lookup (Str.ofString "back") = some (.ref x2) → m.lookup (Str.ofString "record") = some (.ref x) → T prog w C A ((r2, .lst []) :: (u2, .lst (txts hs)) :: (x2, .ins 76 d2) :: (d2, .idc (entryF u2 r2)) :: (DFd, .lst (txts fd)) :: (r, .lst []) :: (u, .lst (txts ags)) :: (x, .ins 76 d) :: (d, .idc (entryF u r)) :: (DW, .lst (txts (Wn 3))) ::
      (L, .ns m) ::
      (L + 1 + 1 + 1 + 1 + 1 + 1 + 1, .cel (some (.ref DLe))) :: (L + 1 + 1 + 1 + 1 + 1 + 1, .cel (some (.ref DFd))) :: (L + 1 + 1 + 1 + 1 + 1, .cel (some (.str tx 0))) :: (L + 1 + 1 + 1 + 1, .cel (some (.ref DL))) :: (L + 1 + 1 + 1, .cel (some (.ref DS))) :: (L + 1 + 1, .cel (some (.str lg 0))) :: ρ)
      (execs (lawB.drop 16) (lawEnv L)) Q NoE) :
    T prog w C A ((r2, .lst []) :: (u2, .lst (txts hs)) :: (x2, .ins 76 d2) :: (d2, .idc (entryF u2 r2)) :: (DFd, .lst (txts fd)) :: (r, .lst []) :: (u, .lst (txts ags)) :: (x, .ins 76 d) :: (d, .idc (entryF u r)) :: (DW, .lst (txts (Wn 3))) ::
      (L, .ns [(Str.ofString "back", .ref x2), (Str.ofString "holes", .ref DH), (Str.ofString "record", .ref x), (Str.ofString "given", .ref DG), (Str.ofString "others", .ref D6), (Str.ofString "written", .ref W), (Str.ofString "words", .ref DW), (Str.ofString "agents", .ref D4), (Str.ofString "numbers", .ref L3)]) ::
      (L + 1 + 1 + 1 + 1 + 1 + 1 + 1, .cel (some (.ref DLe))) :: (L + 1 + 1 + 1 + 1 + 1 + 1, .cel (some (.ref DFd))) :: (L + 1 + 1 + 1 + 1 + 1, .cel (some (.str tx 0))) :: (L + 1 + 1 + 1 + 1, .cel (some (.ref DL))) :: (L + 1 + 1 + 1, .cel (some (.ref DS))) :: (L + 1 + 1, .cel (some (.str lg 0))) :: ρ)
      (execs (lawB.drop 15) (lawEnv L)) Q NoE := by
  refine T_cons ?_
  wtm_at "t_run"
  refine T_iterL (by wtm_at "r_mem") fun it => ?_
  let J : List Value → Led → Prop := fun rs τ => ∃ m ws, m.lookup (Str.ofString "back") = some (.ref x2) ∧ m.lookup (Str.ofString "record") = some (.ref x) ∧ rs = txts ws ∧ (∀ v ∈ ws, v ∈ Wn 3) ∧
    τ = ((r2, .lst []) :: (u2, .lst (txts hs)) :: (x2, .ins 76 d2) :: (d2, .idc (entryF u2 r2)) :: (DFd, .lst (txts fd)) :: (r, .lst []) :: (u, .lst (txts ags)) :: (x, .ins 76 d) :: (d, .idc (entryF u r)) :: (DW, .lst (txts (Wn 3))) :: (L, .ns m) ::
      (L + 1 + 1 + 1 + 1 + 1 + 1 + 1, .cel (some (.ref DLe))) :: (L + 1 + 1 + 1 + 1 + 1 + 1, .cel (some (.ref DFd))) :: (L + 1 + 1 + 1 + 1 + 1, .cel (some (.str tx 0))) :: (L + 1 + 1 + 1 + 1, .cel (some (.ref DL))) :: (L + 1 + 1 + 1, .cel (some (.ref DS))) :: (L + 1 + 1, .cel (some (.str lg 0))) :: ρ)
  refine T_forL (l := DW) (xs := txts (Wn 3)) R.hand J ⟨_, Wn 3, rfl, rfl, rfl, fun _ h => h, rfl⟩ (fun rs τ hJ => ?_) (fun v rs τ i hJ => ?_) (fun τ hJ => ?_)
  · obtain ⟨m, ws, _, _, _, _, rfl⟩ := hJ
    wtm_at "r_mem"
  · obtain ⟨m, ws, hm1, hm2, hrs, hws, rfl⟩ := hJ
    cases ws with
    | nil => cases hrs
    | cons a ws =>
      injection hrs with ha hrs
      obtain ⟨t, rfl⟩ := er_str ha
      have haW := hws a (.head _)
      have ha3 := (Wn_short 3 (by decide)).1 a haW
      have hm3 : List.lookup (Str.ofString "back") ((Str.ofString "asked", Value.str a 0) :: m) = some (.ref x2) := by
        rw [List.lookup_cons]; exact hm1
      have hm4 : List.lookup (Str.ofString "record") ((Str.ofString "asked", Value.str a 0) :: m) = some (.ref x) := by
        rw [List.lookup_cons]; exact hm2
      wtm_at "t_run"
      refine T_addS (by have : (Str.ofString "/").length = 1 := rfl
                        wtm_at "om") fun _ => ?_
      wtm_at "t_run"
      have hok := ask_ok a haW
      refine T_applies (fs := entryF u2 r2) (l := u2) hK (R.le (by decide)) (by wtm_at "r_mem") (by wtm_at "r_mem") (by kernel_rfl!) (by wtm_at "r_mem") hok.1 hok.2.1 hok.2.2 hag ?_
      rw [hb a haW]
      wtm_at "t_run"
      refine T_notInL (xs := fd) (by wtm_at "r_mem") ?_
      rw [show (fd.any fun x => x.cps.toList == a.cps.toList) = inF fd a from rfl]
      refine T_isNB ?_
      rw [show (!(!inF fd a) == !inF fd a) = false by cases inF fd a <;> rfl]
      wtm_at "t_run"
      refine ⟨_, ⟨(Str.ofString "asked", Value.str a 0) :: m, ws, hm3, hm4, hrs, fun v hv => hws v (.tail _ hv), rfl⟩, List.Sublist.refl _⟩
  · obtain ⟨m, ws, hm1, hm2, hrs, hws, rfl⟩ := hJ
    exact h m hm1 hm2
end
set_option maxHeartbeats 1000000
noncomputable def lostP (fd : List Str) (lg : Str) (k : Nat) : Bool := !inF fd (Txt.slice (Txt.lower lg) (some (0 + 1 * (k : Int))) (some (0 + 1 * (k : Int) + 3)))
section
variable {prog : Program} {w : World} {C : Cx} {A : Around} {ρ : Led} {E : Value → Led → Prop} {L D4 L3 D6 DL W DW DS DG r u x d DH DFd DLe x2 d2 u2 r2 : Addr} {Q : Flow → Led → Prop} {ags sm fd hs ls : List Str} {lg tx : Str} {m : List (Str × Value)}
theorem T_And2 {e₁ e₂ : Expr} {pos : Pos} {σ : Led} {env : Env} {Q : Value → Led → Prop} (h : T prog w C A σ (eval e₁ env) (fun v σ₁ => T prog w C A σ₁ (truthy v) (fun b σ₂ => if b = true then T prog w C A σ₂ (eval e₂ env) Q E else Q v σ₂) E) E) : T prog w C A σ (eval (.BoolOp .And [e₁, e₂] pos) env) Q E := fun _ S =>
  BoolOp_and (h.k S fun v _ _ h S => h.k S fun b _ _ h S => by
    cases b
    · exact ⟨_, h, S⟩
    · exact h _ S)
theorem law_9 (hK : C.K = KK w.params) (R : Rm 50 A) (hm1 : m.lookup (Str.ofString "back") = some (.ref x2)) (hm2 : m.lookup (Str.ofString "record") = some (.ref x)) (hll : (Txt.lower lg).length ≤ 1000)
    (hag2 : ∀ a ∈ ags, (Txt.lower a).length ≤ 1000000) (hl : ags.any (hits (asked lg)) = (List.range 4).any (lostP fd lg))
    (hlg : lg.length ≤ 1000) (hlg2 : (Txt.split lg (Str.ofString "/")).length ≤ 1000) (hlg3 : (asked lg).length ≤ 1000) (hst : (ags.any fun x => x.cps.toList == (Str.ofString "*").cps.toList) = true) (hst2 : (hs.any fun x => x.cps.toList == (Str.ofString "*").cps.toList) = false) (hQ : ∀ σ', Q (.ret (.bool true)) σ') :
    T prog w C A ((r2, .lst []) :: (u2, .lst (txts hs)) :: (x2, .ins 76 d2) :: (d2, .idc (entryF u2 r2)) :: (DFd, .lst (txts fd)) :: (r, .lst []) :: (u, .lst (txts ags)) :: (x, .ins 76 d) :: (d, .idc (entryF u r)) :: (DW, .lst (txts (Wn 3))) :: (L, .ns m) ::
      (L + 1 + 1 + 1 + 1 + 1 + 1 + 1, .cel (some (.ref DLe))) :: (L + 1 + 1 + 1 + 1 + 1 + 1, .cel (some (.ref DFd))) :: (L + 1 + 1 + 1 + 1 + 1, .cel (some (.str tx 0))) :: (L + 1 + 1 + 1 + 1, .cel (some (.ref DL))) :: (L + 1 + 1 + 1, .cel (some (.ref DS))) :: (L + 1 + 1, .cel (some (.str lg 0))) :: ρ)
      (execs (lawB.drop 16) (lawEnv L)) Q NoE := by
  refine T_cons ?_
  wtm_at "t_lcg"
  wtm_at "t_run"
  refine T_range (n := 4) rfl fun rg => ?_
  wtm_at "t_run"
  refine T_iterR (.head _) (by wtm_at "om") fun it => ?_
  refine T_comp (List.range 4) (fun k => .int (0 + 1 * (k : Int)) 0) (fun k => if lostP fd lg k = true then some (.int (0 + 1 * (k : Int)) 0) else none) (itsR R.hand) trivial (by decide) rfl rfl (by decide) ?_ ?_ (fun _ _ _ => trivial)
  · intro D L2 k ys i m hk
    wtm_at "t_run"
    refine T_lower (by wtm_at "om") fun _ => ?_
    wtm_at "t_run"
    refine T_slcS3 (.head _) (by wtm_at "om") fun _ => ?_
    wtm_at "t_run"
    refine T_notInL (xs := fd) (by wtm_at "r_mem") ?_
    rw [show (!fd.any fun x => x.cps.toList == (Txt.slice (Txt.lower lg) (some (0 + 1 * (k : Int))) (some (0 + 1 * (k : Int) + 3))).cps.toList) = lostP fd lg k from rfl]
    wtm_at "t_run"
    cases h1 : lostP fd lg k with
    | false =>
      refine ifF rfl ?_
      wtm_at "t_run"
      exact ⟨if_neg Bool.false_ne_true, by wtm_at "r_sl"⟩
    | true =>
      refine ifT rfl ?_
      wtm_at "t_run"
      exact ⟨if_pos rfl, by wtm_at "r_sl"⟩
  · intro L5 D5 m5
    have hm3 : List.lookup (Str.ofString "back") ((Str.ofString "lost", Value.ref D5) :: m) = some (.ref x2) := by
      rw [List.lookup_cons]; exact hm1
    have hm4 : List.lookup (Str.ofString "record") ((Str.ofString "lost", Value.ref D5) :: m) = some (.ref x) := by
      rw [List.lookup_cons]; exact hm2
    wtm_at "t_run"
    refine ⟨_, _, List.Sublist.refl _, ?_⟩
    wtm_at "t_run"
    refine T_applies (fs := entryF u r) (l := u) hK (R.le (by decide)) (by wtm_at "r_mem") (by wtm_at "r_mem") (by kernel_rfl!) (by wtm_at "r_mem") (by wtm_at "om") (by wtm_at "om") (by wtm_at "om") hag2 ?_
    rw [hl]
    wtm_at "t_run"
    have hfin : ∀ b, (List.range 4).any (lostP fd lg) = b → ∀ z σ', (D5, PO.lst (List.filterMap (fun k => if lostP fd lg k = true then some (Value.int (0 + 1 * (k : Int)) 0) else none) (List.range 4))) ∈ σ' → (z, PO.lst (List.map er [])) ∈ σ' → ∀ Q' : Value → Led → Prop, Q' (.bool b) σ' → T prog w C A σ' (compareOp .NotEq (.ref D5) (.ref z)) Q' NoE := by
      intro b hb z σ' h1 h2 Q' hQ'
      cases b with
      | true =>
        refine T_neLen h1 h2 ?_ R.units hQ'
        obtain ⟨k, hk, hp⟩ := List.any_eq_true.mp hb
        intro e
        have e : List.filterMap (fun k => if lostP fd lg k = true then some (Value.int (0 + 1 * (k : Int)) 0) else none) (List.range 4) = [] := List.length_eq_zero_iff.mp e
        rw [List.filterMap_eq_nil_iff] at e
        have := e k hk
        rw [if_pos hp] at this
        cases this
      | false =>
        have e : List.filterMap (fun k => if lostP fd lg k = true then some (Value.int (0 + 1 * (k : Int)) 0) else none) (List.range 4) = txts [] := by
          rw [show txts [] = ([] : List Value) from rfl, List.filterMap_eq_nil_iff]
          intro k hk
          have := List.any_eq_false.mp hb k hk
          exact if_neg this
        rw [e] at h1
        exact T_neTxt (xs := []) (ys := []) h1 h2 R.units hQ'
    refine hfin _ rfl _ _ (by wtm_at "r_mem") (.head _) _ ?_
    refine T_isNB ?_
    rw [show (!((List.range 4).any (lostP fd lg)) == (List.range 4).any (lostP fd lg)) = !(((List.range 4).any (lostP fd lg)) == (List.range 4).any (lostP fd lg)) from by cases (List.range 4).any (lostP fd lg) <;> rfl]
    rw [beq_self_eq_true, Bool.not_true]
    wtm_at "t_run"
    refine T_And2 ?_
    wtm_at "t_run"
    refine T_appliesN (fs := entryF u r) (l := u) hK (R.le (by decide)) (by wtm_at "r_mem") (by wtm_at "r_mem") (by kernel_rfl!) (by wtm_at "r_mem") ?_
    rw [hst]
    wtm_at "t_run"
    refine T_isB ?_
    wtm_at "t_run"
    refine T_appliesN (fs := entryF u2 r2) (l := u2) hK (R.le (by decide)) (by wtm_at "r_mem") (by wtm_at "r_mem") (by kernel_rfl!) (by wtm_at "r_mem") ?_
    rw [hst2]
    wtm_at "t_run"
    refine T_isB ?_
    exact hQ _
end
set_option maxHeartbeats 1000000
theorem con_iff {x y : Str} : Txt.contains x y = true ↔ y.cps.toList <:+: x.cps.toList := by
  show (!(Builtin.Str.occurrences x y 0 x.length 1).isEmpty) = true ↔ _
  rw [StrLaws.found_iff]
  have hlen : ∀ z : Str, z.length = z.cps.toList.length := fun z => rfl
  constructor
  · rintro ⟨i, h1, h2⟩
    rw [StrLaws.subAt_eq, beq_iff_eq] at h2
    refine ⟨x.cps.toList.take i, x.cps.toList.drop (i + y.length), ?_⟩
    rw [← h2, List.append_assoc, ← List.drop_drop, List.take_append_drop, List.take_append_drop]
  · rintro ⟨a, b, h⟩
    refine ⟨a.length, ?_, ?_⟩
    · rw [hlen, hlen, ← h, List.length_append, List.length_append]; wtm_at "om"
    · rw [StrLaws.subAt_eq, beq_iff_eq, ← h, List.append_assoc, List.drop_left', hlen, List.take_left']
      · rfl
      · rfl
theorem inf_skip {c : Nat} {q : List Nat} : ∀ {z rest : List Nat}, c ∉ z → ((c :: q) <:+: z ++ rest ↔ (c :: q) <:+: rest)
  | [], rest, _ => Iff.rfl
  | a :: z, rest, h => by
    rw [List.cons_append, List.infix_cons_iff, inf_skip (fun hm => h (.tail _ hm))]
    constructor
    · rintro (h' | h')
      · rw [List.cons_prefix_cons] at h'
        exact absurd (h'.1 ▸ .head _) h
      · exact h'
    · exact .inr
theorem inf_head {c : Nat} {q rest : List Nat} : (c :: q) <:+: c :: rest ↔ q <+: rest ∨ (c :: q) <:+: rest := by
  rw [List.infix_cons_iff, List.cons_prefix_cons]
  exact ⟨fun h => h.imp (fun h => h.2) id, fun h => h.imp (fun h => ⟨rfl, h⟩) id⟩
theorem word_prefix {c d : Nat} : ∀ {w v rest : List Nat}, c ∉ w → c ∉ v → ((w ++ [c, d]) <+: (v ++ c :: d :: rest) ↔ w = v)
  | [], [], rest, _, _ => by simp [List.cons_prefix_cons]
  | [], b :: v, rest, _, hv => by
    rw [List.nil_append, List.cons_append, List.cons_prefix_cons]
    exact ⟨fun h => absurd (h.1 ▸ .head _) hv, fun h => by cases h⟩
  | a :: w, [], rest, hw, _ => by
    rw [List.nil_append, List.cons_append, List.cons_prefix_cons]
    exact ⟨fun h => absurd (h.1 ▸ .head _) hw, fun h => by cases h⟩
  | a :: w, b :: v, rest, hw, hv => by
    rw [List.cons_append, List.cons_append, List.cons_prefix_cons, word_prefix (fun h => hw (.tail _ h)) fun h => hv (.tail _ h)]
    constructor
    · rintro ⟨rfl, rfl⟩; rfl
    · intro h; injection h with h1 h2; exact ⟨h1, h2⟩
noncomputable def Reach (H : Str → Bool) : Nat → Str → Str → Prop
  | 0, word, w => H word = false ∧ w.cps.toList = word.cps.toList
  | f + 1, word, w => H word = false ∧ (w.cps.toList = word.cps.toList ∨ Reach H f (wa word) w ∨ Reach H f (wb word) w)
noncomputable def plainW (w : Str) : Prop := 95 ∉ w.cps.toList ∧ 60 ∉ w.cps.toList
noncomputable def tg (w : Str) : Str := Str.ofString "<_" ++ w ++ Str.ofString "_>"
theorem tg_cps {w : Str} : (tg w).cps.toList = 60 :: 95 :: (w.cps.toList ++ [95, 62]) := by
  unfold tg
  rw [cps_append, cps_append]
  rfl
theorem end_cps {w : Str} : (Str.ofString "</_" ++ w ++ Str.ofString "_>").cps.toList = 60 :: 47 :: 95 :: (w.cps.toList ++ [95, 62]) := by
  rw [cps_append, cps_append]
  rfl
theorem open_in {w v : Str} {rest : List Nat} (hw : plainW w) (hv : plainW v) : (tg w).cps.toList <:+: (tg v).cps.toList ++ rest ↔ w.cps.toList = v.cps.toList ∨ (tg w).cps.toList <:+: rest := by
  rw [tg_cps, tg_cps, List.cons_append, inf_head, List.cons_append, List.cons_prefix_cons, List.append_assoc]
  have e : [95, 62] ++ rest = 95 :: 62 :: rest := rfl
  rw [e, word_prefix hw.1 hv.1]
  have e2 : (95 :: (v.cps.toList ++ 95 :: 62 :: rest)) = (95 :: (v.cps.toList ++ [95, 62])) ++ rest := by simp
  rw [e2, inf_skip]
  · exact ⟨fun h => h.imp (fun h => h.2) id, fun h => h.imp (fun h => ⟨rfl, h⟩) id⟩
  · intro hm
    rcases List.mem_cons.mp hm with h | hm
    · cases h
    · rcases List.mem_append.mp hm with h | h
      · exact hv.2 h
      · simp at h
theorem close_in {w v : Str} {rest : List Nat} (hv : plainW v) : (tg w).cps.toList <:+: (Str.ofString "</_" ++ v ++ Str.ofString "_>").cps.toList ++ rest ↔ (tg w).cps.toList <:+: rest := by
  rw [tg_cps, end_cps, List.cons_append, inf_head, List.cons_append, List.cons_prefix_cons]
  have e2 : (47 :: (95 :: (v.cps.toList ++ [95, 62]) ++ rest)) = (47 :: 95 :: (v.cps.toList ++ [95, 62])) ++ rest := by simp
  rw [e2, inf_skip]
  · exact ⟨fun h => h.elim (fun h => absurd h.1 (by decide)) id, .inr⟩
  · intro hm
    rcases List.mem_cons.mp hm with h | hm
    · cases h
    rcases List.mem_cons.mp hm with h | hm
    · cases h
    · rcases List.mem_append.mp hm with h | h
      · exact hv.2 h
      · simp at h
theorem amp_in {w : Str} {rest : List Nat} : (tg w).cps.toList <:+: (Str.ofString " &amp; ").cps.toList ++ rest ↔ (tg w).cps.toList <:+: rest := by
  rw [tg_cps]
  exact inf_skip (by decide +kernel)
theorem page_in {H : Str → Bool} {w : Str} (hw : plainW w) {f : Nat} : ∀ {word : Str} {rest : List Nat}, (∀ v ∈ subW f word, plainW v) → ((tg w).cps.toList <:+: (pageP H f word).cps.toList ++ rest ↔ Reach H f word w ∨ (tg w).cps.toList <:+: rest) := by
  induction f with
  | zero =>
    intro word rest hp
    have hv := hp word subW_self
    unfold pageP Reach
    cases hH : H word with
    | true =>
      rw [if_pos rfl]
      show _ <:+: [] ++ rest ↔ _
      rw [List.nil_append]
      exact ⟨.inr, fun h => h.elim (fun h => by cases h.1) id⟩
    | false =>
      rw [if_neg Bool.false_ne_true, page_cat]
      show (tg w).cps.toList <:+: ((tg word).cps.toList ++ [] ++ _) ++ rest ↔ _
      rw [List.append_nil, List.append_assoc, open_in hw hv, close_in hv]
      exact ⟨fun h => h.imp (fun h => ⟨rfl, h⟩) id, fun h => h.imp (fun h => h.2) id⟩
  | succ f ih =>
    intro word rest hp
    have hv := hp word subW_self
    have ha : ∀ v ∈ subW f (wa word), plainW v := fun v h => hp v (.tail _ (List.mem_append_left _ h))
    have hb : ∀ v ∈ subW f (wb word), plainW v := fun v h => hp v (.tail _ (List.mem_append_right _ h))
    unfold pageP Reach
    cases hH : H word with
    | true =>
      rw [if_pos rfl]
      show _ <:+: [] ++ rest ↔ _
      rw [List.nil_append]
      exact ⟨.inr, fun h => h.elim (fun h => by cases h.1) id⟩
    | false =>
      rw [if_neg Bool.false_ne_true, page_cat]
      have e : cat ([pageP H f (wa word), pageP H f (wb word)].map fun z => Str.ofString " &amp; " ++ z) = (Str.ofString " &amp; ").cps.toList ++ ((pageP H f (wa word)).cps.toList ++ ((Str.ofString " &amp; ").cps.toList ++ (pageP H f (wb word)).cps.toList)) := by
        simp only [cat, List.map_cons, List.map_nil, List.flatMap_cons, List.flatMap_nil, cps_append, List.append_nil, List.append_assoc]
      rw [e]
      show (tg w).cps.toList <:+: ((tg word).cps.toList ++ _ ++ _) ++ rest ↔ _
      rw [List.append_assoc, List.append_assoc, open_in hw hv]
      simp only [List.append_assoc]
      rw [amp_in, ih ha, amp_in, ih hb, close_in hv]
      constructor
      · rintro (h | h | h | h)
        · exact .inl ⟨trivial, .inl h⟩
        · exact .inl ⟨trivial, .inr (.inl h)⟩
        · exact .inl ⟨trivial, .inr (.inr h)⟩
        · exact .inr h
      · rintro (⟨_, h | h | h⟩ | h)
        · exact .inl h
        · exact .inr (.inl h)
        · exact .inr (.inr (.inl h))
        · exact .inr (.inr (.inr h))
set_option maxHeartbeats 1000000
theorem str_ext {x y : Str} (h : x.cps.toList = y.cps.toList) : x = y := congrArg Str.mk (Array.toList_inj.mp h)
theorem reach_mem {H : Str → Bool} {f : Nat} : ∀ {word v : Str}, Reach H f word v → v ∈ subW f word := by
  induction f with
  | zero => intro word v h; rw [str_ext h.2]; exact subW_self
  | succ f ih =>
    intro word v h
    rcases h.2 with h | h | h
    · rw [str_ext h]; exact subW_self
    · exact .tail _ (List.mem_append_left _ (ih h))
    · exact .tail _ (List.mem_append_right _ (ih h))
theorem reach_iff {H : Str → Bool} {f : Nat} : ∀ {word v : Str}, (∀ g u, u ∈ subW f word → (∀ z ∈ subW g u, z ∈ subW f word) → H u = true → ∀ z ∈ subW g u, H z = true) → v ∈ subW f word → (Reach H f word v ↔ H v = false) := by
  induction f with
  | zero =>
    intro word v hm hv
    have e : v = word := by simpa [subW] using hv
    subst e
    exact ⟨fun h => h.1, fun h => ⟨h, rfl⟩⟩
  | succ f ih =>
    intro word v hm hv
    have hsa : ∀ v, v ∈ subW f (wa word) → v ∈ subW (f + 1) word := fun v h => .tail _ (List.mem_append_left _ h)
    have hsb : ∀ v, v ∈ subW f (wb word) → v ∈ subW (f + 1) word := fun v h => .tail _ (List.mem_append_right _ h)
    have ma : ∀ g u, u ∈ subW f (wa word) → (∀ z ∈ subW g u, z ∈ subW f (wa word)) → H u = true → ∀ z ∈ subW g u, H z = true := fun g u hu hz => hm g u (hsa u hu) fun z h => hsa z (hz z h)
    have mb : ∀ g u, u ∈ subW f (wb word) → (∀ z ∈ subW g u, z ∈ subW f (wb word)) → H u = true → ∀ z ∈ subW g u, H z = true := fun g u hu hz => hm g u (hsb u hu) fun z h => hsb z (hz z h)
    constructor
    · rintro ⟨h0, h | h | h⟩
      · rw [str_ext h]; exact h0
      · exact (ih ma (reach_mem h)).mp h
      · exact (ih mb (reach_mem h)).mp h
    · intro h0
      have hw : H word = false := by
        cases hH : H word with
        | false => rfl
        | true =>
          have := hm (f + 1) word subW_self (fun z h => h) hH v hv
          rw [h0] at this; cases this
      refine ⟨hw, ?_⟩
      rcases List.mem_cons.mp hv with rfl | hv
      · exact .inl rfl
      · rcases List.mem_append.mp hv with hv | hv
        · exact .inr (.inl ((ih ma hv).mpr h0))
        · exact .inr (.inr ((ih mb hv).mpr h0))
theorem all2 {α β : Type} {l : List α} {m : List β} {p : α → β → Bool} (h : (l.all fun a => m.all fun b => p a b) = true) {a : α} {b : β} (ha : a ∈ l) (hb : b ∈ m) : p a b = true := List.all_eq_true.mp (List.all_eq_true.mp h a ha) b hb
theorem words_sub : ∀ v ∈ Wn 3, v ∈ subW 3 (Str.ofString "") := by
  have : ((Wn 3).all fun v => decide (v ∈ subW 3 (Str.ofString ""))) = true := by decide +kernel
  exact fun v hv => of_decide_eq_true (List.all_eq_true.mp this v hv)
theorem plain_words : ∀ v ∈ Wn 3, plainW v := by
  have : ((Wn 3).all fun v => decide (95 ∉ v.cps.toList ∧ 60 ∉ v.cps.toList)) = true := by decide +kernel
  exact fun v hv => show 95 ∉ v.cps.toList ∧ 60 ∉ v.cps.toList from of_decide_eq_true (List.all_eq_true.mp this v hv)
theorem infW_con {v s : Str} (hv : v ∈ Wn 3) (hs : s ∈ SA) : infW v s = Txt.contains v s := by
  have : ((Wn 3).all fun v => SA.all fun s => infW v s == Txt.contains v s) = true := by decide +kernel
  exact beq_iff_eq.mp (all2 this hv hs)
theorem SA_words : ∀ s ∈ SA, s ∈ Wn 3 := fun s hs => sub_words s (List.mem_filter.mp hs).1
theorem sub_prefix {g : Nat} : ∀ {u z : Str}, z ∈ subW g u → u.cps.toList <+: z.cps.toList := by
  induction g with
  | zero =>
    intro u z h
    have e : z = u := by simpa [subW] using h
    rw [e]; exact List.prefix_refl _
  | succ g ih =>
    intro u z h
    have ha : u.cps.toList <+: (wa u).cps.toList := by unfold wa; rw [cps_append]; exact List.prefix_append _ _
    have hb : u.cps.toList <+: (wb u).cps.toList := by unfold wb; rw [cps_append]; exact List.prefix_append _ _
    rcases List.mem_cons.mp h with rfl | h
    · exact List.prefix_refl _
    · rcases List.mem_append.mp h with h | h
      · exact ha.trans (ih h)
      · exact hb.trans (ih h)
theorem con_trans {x y z : Str} (h1 : Txt.contains x y = true) (h2 : Txt.contains y z = true) : Txt.contains x z = true := con_iff.mpr ((con_iff.mp h2).trans (con_iff.mp h1))
theorem any_map {S : List Str} {v : Str} (hv : v ∈ Wn 3) (hS : ∀ s ∈ S, s ∈ SA) : S.any (infW v) = S.any (Txt.contains v) := by
  rw [Bool.eq_iff_iff, List.any_eq_true, List.any_eq_true]
  exact ⟨fun ⟨s, h1, h2⟩ => ⟨s, h1, by rw [← infW_con hv (hS s h1)]; exact h2⟩, fun ⟨s, h1, h2⟩ => ⟨s, h1, by rw [infW_con hv (hS s h1)]; exact h2⟩⟩
theorem found_at {S : List Str} {H : Str → Bool} (hS : ∀ s ∈ S, s ∈ SA) (hH : ∀ v ∈ subW 3 (Str.ofString ""), H v = S.any (infW v)) {v : Str} (hv : v ∈ Wn 3) : fndP (pageP H 3 (Str.ofString "")) v = !S.any (Txt.contains v) := by
  have hm : ∀ g u, u ∈ subW 3 (Str.ofString "") → (∀ z ∈ subW g u, z ∈ subW 3 (Str.ofString "")) → H u = true → ∀ z ∈ subW g u, H z = true := by
    intro g u hu hz hHu z hzz
    rw [hH u hu, any_map (sub_words u hu) hS, List.any_eq_true] at hHu
    obtain ⟨s, h1, h2⟩ := hHu
    rw [hH z (hz z hzz), any_map (sub_words z (hz z hzz)) hS, List.any_eq_true]
    exact ⟨s, h1, con_iff.mpr ((con_iff.mp h2).trans (sub_prefix hzz).isInfix)⟩
  have hr := reach_iff (H := H) hm (words_sub v hv)
  rw [hH v (words_sub v hv), any_map hv hS] at hr
  have hp := page_in (H := H) (plain_words v hv) (f := 3) (word := Str.ofString "") (rest := []) fun u hu => plain_words u (sub_words u hu)
  rw [List.append_nil] at hp
  have hc : fndP (pageP H 3 (Str.ofString "")) v = true ↔ S.any (Txt.contains v) = false := by
    show Txt.contains _ (tg v) = true ↔ _
    rw [con_iff, hp, hr]
    refine ⟨fun h => h.elim id fun h => ?_, .inl⟩
    rw [tg_cps] at h
    have := h.length_le
    simp at this
  cases h : S.any (Txt.contains v) with
  | true =>
    rw [h] at hc
    cases h2 : fndP (pageP H 3 (Str.ofString "")) v with
    | true => exact absurd (hc.mp h2) (by decide)
    | false => rfl
  | false => exact hc.mpr h
set_option maxHeartbeats 1000000
noncomputable abbrev hit (S : List Str) (v : Str) : Bool := S.any (Txt.contains v)
theorem ti_words {v : Str} (hv : v ∈ Wn 3) : tailS v ∈ Wn 3 ∧ initS v ∈ Wn 3 ∧ Txt.contains v (tailS v) = true ∧ Txt.contains v (initS v) = true ∧ (v.length = 0 ∨ (tailS v).length < v.length ∧ (initS v).length < v.length) := by
  have : ((Wn 3).all fun v => decide (tailS v ∈ Wn 3 ∧ initS v ∈ Wn 3 ∧ Txt.contains v (tailS v) = true ∧ Txt.contains v (initS v) = true ∧ (v.length = 0 ∨ (tailS v).length < v.length ∧ (initS v).length < v.length))) = true := by decide +kernel
  exact of_decide_eq_true (List.all_eq_true.mp this v hv)
theorem lesser_eq {a s : Str} (ha : a ∈ SA) (hs : s ∈ SA) : lesserP a s = (Txt.contains (tailS a) s || Txt.contains (initS a) s) := by
  have : (SA.all fun a => SA.all fun s => lesserP a s == (Txt.contains (tailS a) s || Txt.contains (initS a) s)) = true := by decide +kernel
  exact beq_iff_eq.mp (all2 this ha hs)
theorem hits_eq {v a : Str} (hv : v ∈ Wn 3) (ha : a ∈ Wn 3) : hits (asked (v ++ Str.ofString "/")) a = Txt.contains v a := by
  have : ((Wn 3).all fun v => (Wn 3).all fun a => hits (asked (v ++ Str.ofString "/")) a == Txt.contains v a) = true := by decide +kernel
  exact beq_iff_eq.mp (all2 this hv ha)
theorem empty_hit {v s : Str} (hv : v ∈ Wn 3) (hs : s ∈ SA) (h0 : v.length = 0) : Txt.contains v s = false := by
  have : ((Wn 3).all fun v => SA.all fun s => !(v.length == 0) || !Txt.contains v s) = true := by decide +kernel
  have := all2 this hv hs
  rw [h0] at this
  simpa using this
theorem no_star {v : Str} (hv : v ∈ Wn 3) : (v.cps.toList == (Str.ofString "*").cps.toList) = false := by
  have : ((Wn 3).all fun v => !(v.cps.toList == (Str.ofString "*").cps.toList)) = true := by decide +kernel
  have := List.all_eq_true.mp this v hv
  simpa using this
theorem con_self (v : Str) : Txt.contains v v = true := con_iff.mpr (List.infix_refl _)
section
variable {S fd : List Str} {tx : Str}
theorem inF_fd (hF : ∀ v ∈ Wn 3, fndP tx v = !hit S v) {v : Str} (hv : v ∈ Wn 3) : inF ((Wn 3).filter (fndP tx)) v = !hit S v := by
  unfold inF
  rw [in_flt, decide_eq_true hv, Bool.true_and, hF v hv]
theorem hole_eq (hF : ∀ v ∈ Wn 3, fndP tx v = !hit S v) {v : Str} (hv : v ∈ Wn 3) : holeP ((Wn 3).filter (fndP tx)) v = (hit S v && (!hit S (tailS v) && !hit S (initS v))) := by
  obtain ⟨h1, h2, _⟩ := ti_words hv
  unfold holeP
  rw [inF_fd hF hv, inF_fd hF h1, inF_fd hF h2, Bool.not_not]
theorem any_dec {l : List Str} {a : Str} : (l.any fun z => decide (a = z)) = decide (a ∈ l) := by
  rw [Bool.eq_iff_iff, List.any_eq_true, decide_eq_true_eq]
  exact ⟨fun ⟨z, h1, h2⟩ => by rw [of_decide_eq_true h2]; exact h1, fun h => ⟨a, h, decide_eq_true rfl⟩⟩
theorem merge_eq (hS : ∀ s ∈ S, s ∈ SA) (hF : ∀ v ∈ Wn 3, fndP tx v = !hit S v) :
    (S.filter fun y => ((Wn 3).filter (holeP ((Wn 3).filter (fndP tx)))).any fun z => decide (y = z)) = S.filter (inF ((Wn 3).filter (leastP S))) := by
  refine List.filter_congr fun a ha => ?_
  have haS := hS a ha
  have haW := SA_words a haS
  rw [any_dec]
  unfold inF
  rw [in_flt, decide_eq_true haW, Bool.true_and]
  have e1 : decide (a ∈ (Wn 3).filter (holeP ((Wn 3).filter (fndP tx)))) = holeP ((Wn 3).filter (fndP tx)) a := by
    rw [Bool.eq_iff_iff, decide_eq_true_eq, List.mem_filter]
    exact ⟨fun h => h.2, fun h => ⟨haW, h⟩⟩
  rw [e1, hole_eq hF haW]
  have h1 : hit S a = true := List.any_eq_true.mpr ⟨a, ha, con_self a⟩
  have h2 : inF S a = true := List.any_eq_true.mpr ⟨a, ha, beq_self_eq_true _⟩
  have h3 : S.any (lesserP a) = (hit S (tailS a) || hit S (initS a)) := by
    rw [Bool.eq_iff_iff, List.any_eq_true, Bool.or_eq_true, List.any_eq_true, List.any_eq_true]
    constructor
    · rintro ⟨s, hs, h⟩
      rw [lesser_eq haS (hS s hs), Bool.or_eq_true] at h
      exact h.imp (fun h => ⟨s, hs, h⟩) fun h => ⟨s, hs, h⟩
    · rintro (⟨s, hs, h⟩ | ⟨s, hs, h⟩)
      · exact ⟨s, hs, by rw [lesser_eq haS (hS s hs), h]; rfl⟩
      · exact ⟨s, hs, by rw [lesser_eq haS (hS s hs), h, Bool.or_true]⟩
  unfold leastP
  rw [h1, h2, h3, Bool.true_and, Bool.true_and]
  cases hit S (tailS a) <;> rfl
theorem hole_in (hS : ∀ s ∈ S, s ∈ SA) (hF : ∀ v ∈ Wn 3, fndP tx v = !hit S v) : ∀ n v, v ∈ Wn 3 → v.length ≤ n → hit S v = true → ∃ a ∈ (Wn 3).filter (holeP ((Wn 3).filter (fndP tx))), Txt.contains v a = true := by
  intro n
  induction n with
  | zero =>
    intro v hv hn h
    obtain ⟨s, hs, hc⟩ := List.any_eq_true.mp h
    rw [empty_hit hv (hS s hs) (by wtm_at "om")] at hc; cases hc
  | succ n ih =>
    intro v hv hn h
    obtain ⟨h1, h2, h3, h4, h5⟩ := ti_words hv
    have h0 : v.length ≠ 0 := fun e => by
      obtain ⟨s, hs, hc⟩ := List.any_eq_true.mp h
      rw [empty_hit hv (hS s hs) e] at hc; cases hc
    have h5 := h5.resolve_left h0
    cases ht : hit S (tailS v) with
    | true =>
      obtain ⟨a, ha, hc⟩ := ih (tailS v) h1 (by wtm_at "om") ht
      exact ⟨a, ha, con_trans h3 hc⟩
    | false =>
      cases hi : hit S (initS v) with
      | true =>
        obtain ⟨a, ha, hc⟩ := ih (initS v) h2 (by wtm_at "om") hi
        exact ⟨a, ha, con_trans h4 hc⟩
      | false => exact ⟨v, List.mem_filter.mpr ⟨hv, by rw [hole_eq hF hv, h, ht, hi]; rfl⟩, con_self v⟩
theorem back_eq (hS : ∀ s ∈ S, s ∈ SA) (hF : ∀ v ∈ Wn 3, fndP tx v = !hit S v) : ∀ v ∈ Wn 3, ((Wn 3).filter (holeP ((Wn 3).filter (fndP tx)))).any (hits (asked (v ++ Str.ofString "/"))) = !inF ((Wn 3).filter (fndP tx)) v := by
  intro v hv
  rw [inF_fd hF hv, Bool.not_not, Bool.eq_iff_iff, List.any_eq_true]
  constructor
  · rintro ⟨a, ha, h⟩
    obtain ⟨haW, hh⟩ := List.mem_filter.mp ha
    rw [hits_eq hv haW] at h
    rw [hole_eq hF haW, Bool.and_eq_true] at hh
    obtain ⟨s, hs, hc⟩ := List.any_eq_true.mp hh.1
    exact List.any_eq_true.mpr ⟨s, hs, con_trans h hc⟩
  · intro h
    obtain ⟨a, ha, hc⟩ := hole_in hS hF v.length v hv (Nat.le_refl _) h
    exact ⟨a, ha, by rw [hits_eq hv (List.mem_filter.mp ha).1]; exact hc⟩
end
set_option maxHeartbeats 1000000
theorem lower_cps {x : Str} (h : ∀ c ∈ x.cps.toList, c ≠ 0x3A3) : (Txt.lower x).cps.toList = x.cps.toList.flatMap Unicode.lowerOf := by
  show ((x.cps.mapIdx fun i _ => (Unicode.lowerAt x.cps i).toArray).flatten).toList = _
  rw [Array.toList_flatten, List.flatMap_def]
  congr 1
  apply List.ext_getElem
  · simp
  · intro i h1 h2
    have hi : i < x.cps.size := by simpa using h1
    have hm := h x.cps[i] (by rw [Array.mem_toList_iff]; exact Array.getElem_mem hi)
    simp only [List.getElem_map, Array.getElem_toList, Array.getElem_mapIdx]
    unfold Unicode.lowerAt
    rw [Array.getElem?_eq_getElem hi]
    dsimp only
    rw [if_neg (by simp [hm])]
theorem split_none {x : Str} (h : 47 ∉ x.cps.toList) : Txt.split x (Str.ofString "/") = [x] := by
  have ho : Builtin.Str.occurrences x (Str.ofString "/") 0 x.length (x.length + 1) = [] := by
    rw [List.eq_nil_iff_forall_not_mem]
    intro i hi
    obtain ⟨h1, h2⟩ := StrLaws.occ_spec x (Str.ofString "/") 0 x.length (x.length + 1) i hi
    rw [StrLaws.subAt_eq, beq_iff_eq] at h2
    have hm : 47 ∈ (x.cps.toList.drop i).take (Str.ofString "/").length := by rw [h2]; decide +kernel
    exact h (List.mem_of_mem_drop (List.mem_of_mem_take hm))
  unfold Txt.split
  rw [ho]
  split <;> rfl
noncomputable def cd (d : Nat) : Nat := (#[97, 98, 65, 66] : Array Nat)[d]?.getD 0
noncomputable def lo (b : Bool) : Nat := if b = true then 98 else 97
theorem cd_low : ∀ d, d < 4 → Unicode.lowerOf (cd d) = [lo (decide (d % 2 = 1))] := by decide +kernel
theorem cd_ok : ∀ d, d < 4 → cd d ≠ 0x3A3 ∧ cd d ≠ 47 := by decide +kernel
theorem spell6 (n : Nat) : ∃ d0 d1 d2 d3 d4 d5, (d0 < 4 ∧ d1 < 4 ∧ d2 < 4 ∧ d3 < 4 ∧ d4 < 4 ∧ d5 < 4) ∧ (spellP n 6).cps.toList = [cd d0, cd d1, cd d2, cd d3, cd d4, cd d5] := by
  have h : ∀ k, n / 10 ^ k % 10 % 4 < 4 := fun k => Nat.mod_lt _ (by decide)
  refine ⟨_, _, _, _, _, _, ⟨h 0, h 1, h 2, h 3, h 4, h 5⟩, ?_⟩
  unfold spellP
  rw [glued_cat rfl]
  rfl
noncomputable def lw (b0 b1 b2 b3 b4 b5 : Bool) : Str := ⟨#[lo b0, lo b1, lo b2, lo b3, lo b4, lo b5]⟩
noncomputable def cut (x : Str) (k : Nat) : Str := Txt.slice x (some (0 + 1 * (k : Int))) (some (0 + 1 * (k : Int) + 3))
noncomputable def w3 (b0 b1 b2 : Bool) : Str := ⟨#[lo b0, lo b1, lo b2]⟩
theorem w3_words : ∀ b0 b1 b2, w3 b0 b1 b2 ∈ Wn 3 := by decide +kernel
theorem cut0 (b0 b1 b2 b3 b4 b5 : Bool) : cut (lw b0 b1 b2 b3 b4 b5) 0 = w3 b0 b1 b2 := by kernel_rfl
theorem cut1 (b0 b1 b2 b3 b4 b5 : Bool) : cut (lw b0 b1 b2 b3 b4 b5) 1 = w3 b1 b2 b3 := by kernel_rfl
theorem cut2 (b0 b1 b2 b3 b4 b5 : Bool) : cut (lw b0 b1 b2 b3 b4 b5) 2 = w3 b2 b3 b4 := by kernel_rfl
theorem cut3 (b0 b1 b2 b3 b4 b5 : Bool) : cut (lw b0 b1 b2 b3 b4 b5) 3 = w3 b3 b4 b5 := by kernel_rfl
theorem SA_len {s : Str} (hs : s ∈ SA) : s.cps.toList.length ≤ 3 := (Wn_short 3 (by decide)).1 s (SA_words s hs)
theorem win_in {s : List Nat} {x0 x1 x2 x3 x4 x5 : Nat} (h3 : s.length ≤ 3) : s <:+: [x0, x1, x2, x3, x4, x5] ↔ (s <:+: [x0, x1, x2] ∨ s <:+: [x1, x2, x3] ∨ s <:+: [x2, x3, x4] ∨ s <:+: [x3, x4, x5]) := by
  constructor
  · rintro ⟨a, b, h⟩
    have hl := congrArg List.length h
    rw [List.length_append, List.length_append] at hl
    have hl : a.length + s.length + b.length = 6 := hl
    rw [List.append_assoc] at h
    have hd : ∀ k, k ≤ a.length → [x0, x1, x2, x3, x4, x5].drop k = a.drop k ++ (s ++ b) := fun k hk => by
      rw [← h, List.drop_append_of_le_length hk]
    have main : ∀ k, k ≤ a.length → a.length - k + s.length ≤ 3 → s <:+: ([x0, x1, x2, x3, x4, x5].drop k).take 3 := fun k hk h' => by
      rw [hd k hk]
      refine ⟨a.drop k, b.take (3 - (a.length - k) - s.length), ?_⟩
      have e1 : (a.drop k).take 3 = a.drop k := List.take_of_length_le (by rw [List.length_drop]; wtm_at "om")
      have e2 : s.take (3 - (a.length - k)) = s := List.take_of_length_le (by wtm_at "om")
      rw [List.take_append, List.length_drop, e1, List.take_append, e2, List.append_assoc]
    by_cases h0 : a.length ≤ 3
    · have := main a.length (Nat.le_refl _) (by wtm_at "om")
      rcases ha : a.length with _ | _ | _ | _ | n
      · rw [ha] at this; exact .inl this
      · rw [ha] at this; exact .inr (.inl this)
      · rw [ha] at this; exact .inr (.inr (.inl this))
      · rw [ha] at this; exact .inr (.inr (.inr this))
      · wtm_at "om"
    · exact .inr (.inr (.inr (main 3 (by wtm_at "om") (by wtm_at "om"))))
  · rintro (h | h | h | h)
    · exact h.trans ⟨[], [x3, x4, x5], rfl⟩
    · exact h.trans ⟨[x0], [x4, x5], rfl⟩
    · exact h.trans ⟨[x0, x1], [x5], rfl⟩
    · exact h.trans ⟨[x0, x1, x2], [], rfl⟩
theorem cut_con (b0 b1 b2 b3 b4 b5 : Bool) {s : Str} (hs : s ∈ SA) : Txt.contains (lw b0 b1 b2 b3 b4 b5) s = (List.range 4).any fun k => Txt.contains (cut (lw b0 b1 b2 b3 b4 b5) k) s := by
  have e : (List.range 4).any (fun k => Txt.contains (cut (lw b0 b1 b2 b3 b4 b5) k) s) = (Txt.contains (w3 b0 b1 b2) s || (Txt.contains (w3 b1 b2 b3) s || (Txt.contains (w3 b2 b3 b4) s || (Txt.contains (w3 b3 b4 b5) s || false)))) := by
    rw [← cut0 b0 b1 b2 b3 b4 b5, ← cut1 b0 b1 b2 b3 b4 b5, ← cut2 b0 b1 b2 b3 b4 b5, ← cut3 b0 b1 b2 b3 b4 b5]
    rfl
  rw [e, Bool.or_false, Bool.eq_iff_iff, Bool.or_eq_true, Bool.or_eq_true, Bool.or_eq_true, con_iff, con_iff, con_iff, con_iff, con_iff]
  exact win_in (SA_len hs)
theorem cut_words (b0 b1 b2 b3 b4 b5 : Bool) {k : Nat} (hk : k < 4) : cut (lw b0 b1 b2 b3 b4 b5) k ∈ Wn 3 := by
  have : k = 0 ∨ k = 1 ∨ k = 2 ∨ k = 3 := by wtm_at "om"
  rcases this with rfl | rfl | rfl | rfl
  · rw [cut0]; exact w3_words _ _ _
  · rw [cut1]; exact w3_words _ _ _
  · rw [cut2]; exact w3_words _ _ _
  · rw [cut3]; exact w3_words _ _ _
theorem longer_ex (n : Nat) : ∃ b0 b1 b2 b3 b4 b5, Txt.lower (spellP n 6) = lw b0 b1 b2 b3 b4 b5 ∧ 47 ∉ (spellP n 6).cps.toList ∧ (spellP n 6).length = 6 := by
  obtain ⟨d0, d1, d2, d3, d4, d5, ⟨h0, h1, h2, h3, h4, h5⟩, e⟩ := spell6 n
  refine ⟨decide (d0 % 2 = 1), decide (d1 % 2 = 1), decide (d2 % 2 = 1), decide (d3 % 2 = 1), decide (d4 % 2 = 1), decide (d5 % 2 = 1), ?_, ?_, ?_⟩
  · refine str_ext ?_
    rw [lower_cps, e]
    · simp only [List.flatMap_cons, List.flatMap_nil, cd_low d0 h0, cd_low d1 h1, cd_low d2 h2, cd_low d3 h3, cd_low d4 h4, cd_low d5 h5]
      rfl
    · rw [e]
      intro c hc
      simp only [List.mem_cons, List.not_mem_nil, or_false] at hc
      rcases hc with rfl | rfl | rfl | rfl | rfl | rfl
      · exact (cd_ok _ h0).1
      · exact (cd_ok _ h1).1
      · exact (cd_ok _ h2).1
      · exact (cd_ok _ h3).1
      · exact (cd_ok _ h4).1
      · exact (cd_ok _ h5).1
  · rw [e]
    intro hc
    simp only [List.mem_cons, List.not_mem_nil, or_false] at hc
    rcases hc with h | h | h | h | h | h
    · exact (cd_ok _ h0).2 h.symm
    · exact (cd_ok _ h1).2 h.symm
    · exact (cd_ok _ h2).2 h.symm
    · exact (cd_ok _ h3).2 h.symm
    · exact (cd_ok _ h4).2 h.symm
    · exact (cd_ok _ h5).2 h.symm
  · show (spellP n 6).cps.toList.length = 6
    rw [e]; rfl
theorem asked_plain {x : Str} (h : 47 ∉ x.cps.toList) : asked x = Txt.lower x := by
  unfold asked
  rw [split_none h]
  rfl
theorem lost_eq {S : List Str} {tx lg : Str} {b0 b1 b2 b3 b4 b5 : Bool} (hS : ∀ s ∈ S, s ∈ SA) (hF : ∀ v ∈ Wn 3, fndP tx v = !hit S v) (hl : Txt.lower lg = lw b0 b1 b2 b3 b4 b5) :
    S.any (Txt.contains (Txt.lower lg)) = (List.range 4).any (lostP ((Wn 3).filter (fndP tx)) lg) := by
  have e : ∀ k, k < 4 → lostP ((Wn 3).filter (fndP tx)) lg k = hit S (cut (Txt.lower lg) k) := fun k hk => by
    unfold lostP
    show (!inF _ (cut (Txt.lower lg) k)) = _
    rw [hl, inF_fd hF (cut_words _ _ _ _ _ _ hk), Bool.not_not]
  rw [Bool.eq_iff_iff, List.any_eq_true, List.any_eq_true]
  constructor
  · rintro ⟨s, hs, h⟩
    rw [hl, cut_con _ _ _ _ _ _ (hS s hs)] at h
    obtain ⟨k, hk, h⟩ := List.any_eq_true.mp h
    exact ⟨k, hk, by rw [e k (List.mem_range.mp hk), hl]; exact List.any_eq_true.mpr ⟨s, hs, h⟩⟩
  · rintro ⟨k, hk, h⟩
    rw [e k (List.mem_range.mp hk), hl] at h
    obtain ⟨s, hs, h⟩ := List.any_eq_true.mp h
    exact ⟨s, hs, by rw [hl, cut_con _ _ _ _ _ _ (hS s hs)]; exact List.any_eq_true.mpr ⟨k, hk, h⟩⟩
set_option maxHeartbeats 1000000
theorem exOf_ne (q : Str → Bool) : exOf q ≠ [] := by
  intro h
  have h1 : ((Wn 3).filter q).map tagOf = [] := (List.append_eq_nil_iff.mp h).1
  have h2 := (List.append_eq_nil_iff.mp h).2
  have ha : Str.ofString "a" ∈ (Wn 3).drop 1 := by decide +kernel
  have h1 : (Wn 3).filter q = [] := List.map_eq_nil_iff.mp h1
  cases hq : q (Str.ofString "a") with
  | true =>
    have := List.mem_filter.mpr ⟨List.mem_of_mem_drop ha, hq⟩
    rw [h1] at this; cases this
  | false =>
    have hm : Str.ofString "a" ∈ ((Wn 3).drop 1).filter fun u => !q u := List.mem_filter.mpr ⟨ha, by rw [hq]; rfl⟩
    have := (List.mem_flatMap (f := fun u => [u, Str.ofString "_" ++ u, u ++ Str.ofString "_"]) (b := Str.ofString "a")).mpr ⟨_, hm, List.mem_cons_self⟩
    rw [h2] at this; cases this
theorem exOf_len (q : Str → Bool) : (exOf q).length ≤ 1000 := by
  have h3 : ∀ l : List Str, (l.flatMap fun u => [u, Str.ofString "_" ++ u, u ++ Str.ofString "_"]).length = 3 * l.length := by
    intro l
    induction l with
    | nil => rfl
    | cons a r ih => rw [List.flatMap_cons, List.length_append, ih]; simp only [List.length_cons, List.length_nil]; wtm_at "om"
  unfold exOf
  rw [List.length_append, List.length_map, h3]
  have h1 := List.length_filter_le q (Wn 3)
  have h2 := List.length_filter_le (fun u => !q u) ((Wn 3).drop 1)
  have h4 : (Wn 3).length = 15 := by decide +kernel
  have h5 : ((Wn 3).drop 1).length = 14 := by decide +kernel
  wtm_at "om"
theorem hits_mid {u : Str} {l₁ l₂ : List Str} (h₁ : ∀ a ∈ l₁, a.cps.toList ≠ (Str.ofString "*").cps.toList) (h₂ : ∀ a ∈ l₂, a.cps.toList ≠ (Str.ofString "*").cps.toList) :
    (l₁ ++ [Str.ofString "*"] ++ l₂).any (hits u) = ((l₁ ++ l₂).map Txt.lower).any (Txt.contains u) := by
  rw [List.any_append, List.any_append, List.any_cons, List.any_nil, hits_star, any_hits h₁, any_hits h₂, List.map_append, List.any_append]
  simp only [Bool.or_false]
section
variable {prog : Program} {w : World} {C : Cx} {A : Around} {ρ : Led} {E : Value → Led → Prop} {sl L D4 L3 : Addr} {Q : Flow → Led → Prop} {n0 n1 n2 n3 n4 : Nat} {a0 a1 a2 a3 : Str}
theorem law_rest (hK : C.K = KK w.params) (hL : lam03 ∈ C.lams) (R : Rm 50 A) (h4 : n4 < 10 ^ 6) (hA : ∀ a ∈ [a0, a1, a2, a3], Txt.lower a ∈ SA ∧ a.cps.toList ≠ (Str.ofString "*").cps.toList) (hQ : ∀ σ', Q (.ret (.bool true)) σ') :
    T prog w C A ((L, .ns [(Str.ofString "agents", .ref D4), (Str.ofString "numbers", .ref L3)]) :: (D4, .lst (txts [a0, a1, a2, a3])) :: (L3, .lst [.int n0 0, .int n1 0, .int n2 0, .int n3 0, .int n4 0]) ::
      (L + 1 + 1 + 1 + 1 + 1 + 1 + 1, .cel none) :: (L + 1 + 1 + 1 + 1 + 1 + 1, .cel none) :: (L + 1 + 1 + 1 + 1 + 1, .cel none) :: (L + 1 + 1 + 1 + 1, .cel none) :: (L + 1 + 1 + 1, .cel none) :: (L + 1 + 1, .cel none) :: ρ)
      (execs (lawB.drop 2) (lawEnv L)) Q NoE := by
  have hlen : ∀ a ∈ [a0, a1, a2, a3], (Txt.lower a).length ≤ 10 := fun a ha => Nat.le_trans (SA_len (hA a ha).1) (by decide)
  have hSA : ∀ s ∈ [a0, a1, a2, a3].map Txt.lower, s ∈ SA := fun s hs => by
    obtain ⟨a, ha, rfl⟩ := List.mem_map.mp hs
    exact (hA a ha).1
  have hst1 : ∀ a ∈ [a0, a1], a.cps.toList ≠ (Str.ofString "*").cps.toList := fun a ha => (hA a (by simp only [List.mem_cons, List.not_mem_nil, or_false] at ha ⊢; rcases ha with h | h <;> simp [h])).2
  have hst2 : ∀ a ∈ [a2, a3], a.cps.toList ≠ (Str.ofString "*").cps.toList := fun a ha => (hA a (by simp only [List.mem_cons, List.not_mem_nil, or_false] at ha ⊢; rcases ha with h | h <;> simp [h])).2
  have hstar : (Txt.lower (Str.ofString "*")).length ≤ 10 := by decide +kernel
  have hagR : ∀ a ∈ [a0, a1, Str.ofString "*", a2, a3], (Txt.lower a).length ≤ 1000000 := by
    intro a ha
    simp only [List.mem_cons, List.not_mem_nil, or_false] at ha
    rcases ha with rfl | rfl | rfl | rfl | rfl
    · exact Nat.le_trans (hlen _ (by simp)) (by decide)
    · exact Nat.le_trans (hlen _ (by simp)) (by decide)
    · exact Nat.le_trans hstar (by decide)
    · exact Nat.le_trans (hlen _ (by simp)) (by decide)
    · exact Nat.le_trans (hlen _ (by simp)) (by decide)
  have htext : Builtin.Str.glued (Str.ofString "") (tellP (fun y => (exOf fun v => ([a0, a1, a2, a3].map Txt.lower).any (endsW v)).any fun z => decide (y = z)) 3 (Str.ofString "") [] []).2 = pageP (pgH [a0, a1, Str.ofString "*", a2, a3]) 3 (Str.ofString "") := law_text (l₁ := [a0, a1]) (l₂ := [a2, a3]) hst1 hst2 hSA
  have hpl : (pageP (pgH [a0, a1, Str.ofString "*", a2, a3]) 3 (Str.ofString "")).length ≤ 100000 := Nat.le_trans (pageP_len rfl) (by decide)
  have hF : ∀ v ∈ Wn 3, fndP (pageP (pgH [a0, a1, Str.ofString "*", a2, a3]) 3 (Str.ofString "")) v = !hit ([a0, a1, a2, a3].map Txt.lower) v := fun v hv => found_at hSA (fun u _ => pgH_small (l₁ := [a0, a1]) (l₂ := [a2, a3]) hst1 hst2) hv
  obtain ⟨b0, b1, b2, b3, b4, b5, hlow, hno, hl6⟩ := longer_ex n4
  have hll : (Txt.lower (spellP n4 6)).length = 6 := by rw [hlow]; rfl
  refine law_2 hK R h4 (Nat.le_refl _) hlen fun D6 DL W DW DS => ?_
  refine law_3 hK hL R (ex := exOf fun v => ([a0, a1, a2, a3].map Txt.lower).any (endsW v)) rfl (exOf_ne _) (exOf_len _) (fun v hv => (Wn_short 3 (by decide)).1 v (List.mem_filter.mp hv).1) htext hpl fun DG => ?_
  refine law_4 hK R hagR rfl fun r u x d => ?_
  refine law_5 hK R fun DFd DH => ?_
  refine law_6 hK R (Nat.le_of_ble_eq_true rfl) (Nat.le_trans (List.length_filter_le _ _) (by decide +kernel)) fun DLe x2 d2 u2 r2 => ?_
  refine law_7 hK R (Nat.le_of_ble_eq_true rfl) (Nat.le_trans (List.length_filter_le _ _) (by decide +kernel)) (merge_eq hSA hF) ?_
  refine law_8 hK R (fun a ha => ?_) (back_eq hSA hF) fun m hm1 hm2 => ?_
  · have := (List.mem_filter.mp ha).1
    have h : ((Wn 3).all fun v => decide ((Txt.lower v).length ≤ 1000000)) = true := by decide +kernel
    exact of_decide_eq_true (List.all_eq_true.mp h a this)
  refine law_9 hK R hm1 hm2 (by rw [hll]; decide) hagR ?_ (by rw [hl6]; decide) (by rw [split_none hno]; exact Nat.le_of_ble_eq_true rfl) (by rw [asked_plain hno, hll]; decide) ?_ ?_ hQ
  · rw [← lost_eq hSA hF hlow]
    rw [← asked_plain hno]
    exact hits_mid hst1 hst2
  · simp
  · rw [List.any_eq_false]
    intro v hv
    rw [no_star (List.mem_filter.mp hv).1]
    exact Bool.false_ne_true
end
set_option maxHeartbeats 1000000
section
variable {prog : Program} {w : World} {C : Cx} {A : Around} {ρ : Led} {E : Value → Led → Prop} {Q : Value → Led → Prop} {sl : Addr} {is : List Int}
noncomputable def stride (is : List Int) (i : Nat) : List Int := pickG is (some i) none (some 5)
theorem pick_stride (is : List Int) (i : Nat) : pick (intL is) (some (i : Int)) none (some 5) = intL (stride is i) := pick_map ..
theorem fmod_ex (z : Int) : ∃ n : Nat, n < 10 ^ 6 ∧ z.fmod (10 ^ 6) = n := by
  have h1 := Int.fmod_nonneg_of_pos z (b := 10 ^ 6) (by decide)
  have h2 := Int.fmod_lt_of_pos z (b := 10 ^ 6) (by decide)
  exact ⟨(z.fmod (10 ^ 6)).toNat, by wtm_at "om", by wtm_at "om"⟩
theorem nums_ex (is : List Int) : ∃ n0 n1 n2 n3 n4 : Nat, n0 < 10 ^ 6 ∧ n1 < 10 ^ 6 ∧ n2 < 10 ^ 6 ∧ n3 < 10 ^ 6 ∧ n4 < 10 ^ 6 ∧ List.mapIdx (fun i z => Value.int ((z + (stride is i).sum).fmod (10 ^ 6)) 0) [302, 1010, 331, 2220, 131313] = [.int n0 0, .int n1 0, .int n2 0, .int n3 0, .int n4 0] := by
  obtain ⟨n0, h0, e0⟩ := fmod_ex (302 + (stride is 0).sum)
  obtain ⟨n1, h1, e1⟩ := fmod_ex (1010 + (stride is 1).sum)
  obtain ⟨n2, h2, e2⟩ := fmod_ex (331 + (stride is 2).sum)
  obtain ⟨n3, h3, e3⟩ := fmod_ex (2220 + (stride is 3).sum)
  obtain ⟨n4, h4, e4⟩ := fmod_ex (131313 + (stride is 4).sum)
  refine ⟨n0, n1, n2, n3, n4, h0, h1, h2, h3, h4, ?_⟩
  rw [← e0, ← e1, ← e2, ← e3, ← e4]
  rfl
theorem div10 (a : Int) : Builtin.divisionGoesByPylong a 10 = false := by
  unfold Builtin.divisionGoesByPylong
  dsimp only
  rw [Bool.and_eq_false_iff]
  exact .inl (by decide +kernel)
theorem div2 (a : Int) : Builtin.divisionGoesByPylong a 2 = false := by
  unfold Builtin.divisionGoesByPylong
  dsimp only
  rw [Bool.and_eq_false_iff]
  exact .inl (by decide +kernel)
theorem T_iterEn {e it : Addr} {i : Nat} {σ : Led} (h1 : (e, enm it i) ∈ σ) (h : Q (.ref e) σ) : T prog w C A σ (pyIter (.ref e)) Q E := fun s S => by
  obtain ⟨oe, hoe, old, rfl⟩ := S.get h1
  exact wpAny_pyIter_enum hoe ⟨_, h, S⟩
theorem spell_ok {n m : Nat} : Txt.lower (spellP m (3 - n % 5 / 2)) ∈ SA ∧ (spellP m (3 - n % 5 / 2)).cps.toList ≠ (Str.ofString "*").cps.toList := by
  have h1 : 1 ≤ 3 - n % 5 / 2 := by wtm_at "om"
  have h3 : 3 - n % 5 / 2 ≤ 3 := by wtm_at "om"
  exact ⟨spell_SA h1 h3, spell_star h1 h3⟩
theorem T_law {its : Array Value} (hK : C.K = KK w.params) (hL : lam03 ∈ C.lams) (R : Rm 60 A) (hO : C.h₀.IsList sl its) (hx : its.toList.map er = intL is) (hz : is.length ≤ 63) (hQ : ∀ σ', Q (.bool true) σ') :
    T prog w C A ρ (call (.ref 251) [.ref sl]) Q E := by
  refine T_callTC ?_
  refine' T_callG (m := []) (binds := [(Str.ofString "script", .ref sl)])
    (fun L => [(Str.ofString "least", L + 1 + 1 + 1 + 1 + 1 + 1 + 1), (Str.ofString "found", L + 1 + 1 + 1 + 1 + 1 + 1), (Str.ofString "text", L + 1 + 1 + 1 + 1 + 1), (Str.ofString "left_out", L + 1 + 1 + 1 + 1), (Str.ofString "small", L + 1 + 1 + 1), (Str.ofString "longer", L + 1 + 1), (Str.ofString "script", L + 1)]) (fun L => [(L + 1 + 1 + 1 + 1 + 1 + 1 + 1, .cel none), (L + 1 + 1 + 1 + 1 + 1 + 1, .cel none), (L + 1 + 1 + 1 + 1 + 1, .cel none), (L + 1 + 1 + 1 + 1, .cel none), (L + 1 + 1 + 1, .cel none), (L + 1 + 1, .cel none), (L + 1, .cel (some (.ref sl)))]) R.room (ho := ?ho) (hcd := ?hcd) (hbind := ?hb) (hloc := ?hloc) (hm := ?hm) (hcells := ?hc1) (hcv := ?hc2) (hnd := ?hc3) (hnd2 := ?hc4) (h := ?h) (hco := ?hco) (hgen := ?hgen) (hk := ?hk)
  case ho => rw [hK]; exact lookup_KK rfl rfl
  case hcd => wtm_at "r_k"
  case hb => exact fun s X => kp_binds (K := KK w.params) (hK ▸ X) fun S => by kernel_rfl!
  case hloc => kernel_rfl!
  case hm => exact rfl
  case hco => rfl
  case hgen => rfl
  case hk => rfl
  case hc1 => exact fun L => rfl
  case hc2 => exact fun L => rfl
  case hc3 => decide
  case hc4 => exact fun L => rfl
  intro L
  dsimp only [List.cons_append, List.nil_append]
  wtm_at "t_go"
  refine T_LCuG _ (by exact rfl) (by exact rfl) (by exact rfl) (by decide) ?_
  wtm_at "t_go"
  refine T_enum (.head _) fun e it => ?_
  wtm_at "t_go"
  refine T_iterEn (.head _) ?_
  refine T_compEn [302, 1010, 331, 2220, 131313] (fun i z => .int ((z + (stride is i).sum).fmod (10 ^ 6)) 0) R.hand (.head _) (by decide) rfl rfl rfl (by decide) ?_ ?_
  · intro D L2 e it p1 p2 i z ys m hi
    wtm_at "t_run"
    refine T_slcO (.head _) hO hx (by rw [intL, List.length_map]; wtm_at "om") (.int _ _) .none (.int _ _) (by decide) fun D2 => ?_
    rw [pick_stride]
    wtm_at "t_run"
    refine T_sum (xs := stride is i) R.hand (.head _) fun _ => ?_
    wtm_at "t_run"
    refine T_powI (by decide) (by decide +kernel) fun _ => ?_
    refine T_modI (by decide) fun _ => ?_
    exact ⟨rfl, by apply List.Sublist.cons; apply List.Sublist.cons; exact List.Sublist.refl _⟩
  · obtain ⟨n0, n1, n2, n3, n4, h0, h1, h2, h3, h4, eN⟩ := nums_ex is
    rw [eN]
    intro D L3 m
    wtm_at "t_run"
    refine ⟨_, _, List.Sublist.refl _, ?_⟩
    wtm_at "t_run"
    wtm_at "t_lcg"
    wtm_at "t_run"
    refine T_slcL (.head _) (by wtm_at "r_mem") (Nat.le_of_ble_eq_true rfl) .none (.int _ _) .none (by decide) fun D2 => ?_
    have e4 : pick [Value.int (n0 : Int) 0, .int n1 0, .int n2 0, .int n3 0, .int n4 0] none (some 4) none = [n0, n1, n2, n3].map fun (n : Nat) => Value.int n 0 := rfl
    rw [e4]
    refine T_iterL (.head _) fun it => ?_
    refine T_comp [n0, n1, n2, n3] (fun (n : Nat) => .int n 0) (fun n => some (.str (spellP (n / 10) (3 - n % 5 / 2)) 0)) (itsL R.hand) (.head _) (Nat.le_of_ble_eq_true rfl) rfl rfl (by decide) ?_ ?_
    · intro D3 L3 n ys i m hn
      have hn6 : n < 10 ^ 6 := by
        simp only [List.mem_cons, List.not_mem_nil, or_false] at hn
        rcases hn with rfl | rfl | rfl | rfl <;> assumption
      wtm_at "t_run"
      refine T_divI (by decide) (div10 _) fun _ => ?_
      rw [show (n : Int).fdiv 10 = ((n / 10 : Nat) : Int) by { rw [Int.fdiv_eq_ediv_of_nonneg _ (by decide)]; wtm_at "om" }]
      wtm_at "t_run"
      refine T_modI (by decide) fun _ => ?_
      rw [show (n : Int).fmod 5 = ((n % 5 : Nat) : Int) by { rw [Int.fmod_eq_emod_of_nonneg _ (by decide)]; wtm_at "om" }]
      wtm_at "t_run"
      refine T_divI (by decide) (div2 _) fun _ => ?_
      rw [show ((n % 5 : Nat) : Int).fdiv 2 = ((n % 5 / 2 : Nat) : Int) by { rw [Int.fdiv_eq_ediv_of_nonneg _ (by decide)]; wtm_at "om" }]
      wtm_at "t_run"
      refine T_subI fun _ => ?_
      rw [show (3 : Int) - ((n % 5 / 2 : Nat) : Int) = ((3 - n % 5 / 2 : Nat) : Int) by wtm_at "om"]
      wtm_at "t_run"
      refine T_spelled hK ((R.deeper _).le (by decide)) (by wtm_at "om") (by wtm_at "om") fun _ => ?_
      exact ⟨rfl, List.Sublist.refl _⟩
    · rw [fm_txts, show [n0, n1, n2, n3].map (fun n => spellP (n / 10) (3 - n % 5 / 2)) = [spellP (n0 / 10) (3 - n0 % 5 / 2), spellP (n1 / 10) (3 - n1 % 5 / 2), spellP (n2 / 10) (3 - n2 % 5 / 2), spellP (n3 / 10) (3 - n3 % 5 / 2)] from rfl]
      intro L4 D4 m4
      wtm_at "t_run"
      refine ⟨m4, _, ?_, T.perm (law_rest (L := L) (D4 := D4) (L3 := L3) (n0 := n0) (n1 := n1) (n2 := n2) (n3 := n3) (a0 := spellP (n0 / 10) (3 - n0 % 5 / 2)) (a1 := spellP (n1 / 10) (3 - n1 % 5 / 2)) (a2 := spellP (n2 / 10) (3 - n2 % 5 / 2)) (a3 := spellP (n3 / 10) (3 - n3 % 5 / 2)) (ρ := (L + 1, .cel (some (.ref sl))) :: ρ) hK hL ((R.deeper _).le (by decide)) h4 ?_ fun σ' => ⟨σ', List.Sublist.refl _, hQ σ'⟩) (pm3 _ _ _ _)⟩
      · dsimp only [er]
        wtm_at "r_sl"
      · intro a ha
        simp only [List.mem_cons, List.not_mem_nil, or_false] at ha
        rcases ha with rfl | rfl | rfl | rfl
        · exact spell_ok
        · exact spell_ok
        · exact spell_ok
        · exact spell_ok
end
set_option maxHeartbeats 0
noncomputable def ksK : List Addr := [3, 37, 51, 52, 58, 65, 66, 72, 74, 75, 76, 77, 78, 86, 87, 91, 92, 93, 99, 101, 109, 115, 116, 117, 123, 124, 130, 132, 138, 139, 145, 146, 147, 148, 154, 155, 161, 168, 169, 170, 174, 175, 181, 182, 188, 195, 197, 198, 199, 200, 201, 209, 210, 216, 217, 223, 224, 228, 229, 233, 234, 240, 241, 245, 246, 250, 251]
theorem ksK_eq : ∀ P, ksK = (heapK P).map (·.1) := fun _ => by kernel_rfl
noncomputable def vw : Program := view Challenge.pw_rs0229_03 [0, 1, 3, 4, 6, 7, 8, 9, 10, 11, 12, 14, 15, 16, 17, 18, 19]
noncomputable def looseK : List Str := [Str.ofString "_twin_re_1", Str.ofString "_namespace_map", Str.ofString "_looks_like_prefix_name", Str.ofString "C14NWriterTarget"]
noncomputable abbrev obsK (s : Shared) : List (Option Obj) × Option Obj × Nat × Bool := (ksK.map s.heap.get?, s.heap.get? 172, s.heap.objs.size, decide (0 < s.toks))
noncomputable abbrev valK (w : World) : List (Option Obj) × Option Obj × Nat × Bool := ((heapK w.params).map (fun p => some p.2), some (tabObj #[]), 252, true)
noncomputable abbrev RanB (b : Bool) : Prop := ∀ w : World, (fencedOpening treeTable Challenge.pw_rs0229_03 w 3218).map (fun s₀ => (topFrom treeTable Challenge.pw_rs0229_03 (w.withFollow "special-get-raises" b) 3218 s₀).map (fun s => (openSeen vw looseK (importedModules Challenge.pw_rs0229_03.main.body) (fun s => xlAt vw [] s && recOk [] s) true s, obsK s))) = some (some (openGood vw looseK, valK (w.withFollow "special-get-raises" b)))
theorem ranF : RanB false := by
  intro w
  delta fencedOpening topFrom
  rw [PySem.W.Fast.te14082659384304107361, PySem.W.Fast.te10274390034422433532, PySem.W.Fast.te14289696077712309145, PySem.W.Fast.te14364793385576792824, PySem.W.Fast.te4187177175401517315, PySem.W.Fast.te5923862056798008813, PySem.W.Fast.te1435165496053646825]
  kernel_rfl
theorem ranT : RanB true := by
  intro w
  delta fencedOpening topFrom
  rw [PySem.W.Fast.te14082659384304107361, PySem.W.Fast.te10274390034422433532, PySem.W.Fast.te14289696077712309145, PySem.W.Fast.te14364793385576792824, PySem.W.Fast.te4187177175401517315, PySem.W.Fast.te5923862056798008813, PySem.W.Fast.te1435165496053646825]
  kernel_rfl
theorem left : LeftO Challenge.pw_rs0229_03 vw looseK (fun s => xlAt vw [] s && recOk [] s) obsK valK 3218 := by
  refine LeftO.of_split "special-get-raises" fun w => ?_
  obtain ⟨s, e, f⟩ := Option.map_eq_some_iff.mp (ranF w)
  obtain ⟨s', e', f'⟩ := Option.map_eq_some_iff.mp (ranT w)
  cases e.symm.trans e'
  rw [e]
  exact congrArg some (Prod.ext f f')
theorem said : Challenge.rw_rs0229_03.wellSaid = true := by
  rw [PySem.W.Fast.te9446332074065402090]
  kernel_rfl
set_option maxHeartbeats 0
theorem mem_of_look {K : Frag} {a : Addr} {o : Obj} (h : K.lookup a = some o) : (a, o) ∈ K := by
  induction K with
  | nil => cases h
  | cons p r ih =>
    rw [List.lookup_cons] at h
    split at h
    · rename_i q
      cases h
      rw [beq_iff_eq.mp q]
      exact .head _
    · exact .tail _ (ih h)
theorem heapK_cls (P : Params) : ∀ a o, (KK P).lookup a = some o → o.cls ≠ .none := by
  have h : (KK P).all keptO = true := by kernel_rfl!
  intro a o e q
  have := List.all_eq_true.mp h (a, o) (mem_of_look e)
  unfold keptO at this
  rw [show (a, o).2.cls = .none from q] at this
  cases this
theorem low_of {h : Heap} (x : h.NoLimit) : cStatics < h.objs.size := by
  obtain ⟨mc, ⟨o, es, ep, ho, _⟩, _⟩ := x
  exact Heap.lt_size ho
theorem table_174 {P : Params} {h : Heap} (x : (KK P).In h) : ∃ o vs, h.get? 174 = some o ∧ o.cls = .type "code" ∧ o.data = .fields vs ∧ vs[11]? = some (.ref 172) :=
  ⟨_, _, x 174 _ rfl, rfl, rfl, rfl⟩
theorem ns_some_of {K : Frag} {h : Heap} {N : Addr} {mg : Str → Option Value} {n : Str} {v : Value} (X : K.In h) (G : h.Ns N mg) (e : nsIn K N n = some (some v)) : mg n = some v := by
  obtain ⟨o, es, ep, ho, hd, _, hf⟩ := G
  unfold nsIn at e
  split at e
  · rename_i q
    have y := X _ _ q
    rw [ho] at y
    cases y
    cases hd
    split at e
    · rename_i he
      rw [← hf]
      unfold nsFind findBy
      rw [← Array.find?_toList, he]
      simpa using e
    · split at e <;> simp at e
  · cases e
theorem ints_er {vs : List Value} {is : List Int} (h : IntsAre vs is) : vs.toArray.toList.map er = intL is := by
  induction h with
  | nil => rfl
  | cons n t _ ih => exact congrArg (Value.int n 0 :: ·) ih
theorem theCall {w : World} {s₀ s₁ : Shared} {mg mb : Str → Option Value} (G : Ground vw looseK Challenge.rw_rs0229_03.row.records (XL vw []) w s₀ mg mb s₁.heap) (Y : obsK s₀ = valK w) {fa : Addr} (hmg : mg (Str.ofString "law") = some (.ref fa)) (hg : s₁.gens = #[])
    {args : List WData} {vals : List Value} {as : List Addr} (L : Laid Challenge.rw_rs0229_03.row.toRowW.records w s₀ s₁ args vals as) (hpre : Challenge.rw_rs0229_03.row.toRowW.claim.pre args = true) (hlay : WData.layableAll args = true)
    (hrd : ReadsAllW Challenge.rw_rs0229_03.row.toRowW.records (classAt s₀.heap) s₁.heap vals args as) (hwl : WellAll w.params s₁.heap vals args) (hlo : ∀ a ∈ as, (a == sysModules) = false) :
    wpAny (model Challenge.rw_rs0229_03.row.toRowW.prog w) callerA (call (.ref fa) vals) (fun v s' => GoodWG Challenge.rw_rs0229_03.row.toRowW.claim (classAt s₀.heap) (ExcName.means s₀.heap) args s₁ (.ok (.ret v)) s')
      (fun e s' => GoodWG Challenge.rw_rs0229_03.row.toRowW.claim (classAt s₀.heap) (ExcName.means s₀.heap) args s₁ (.error e) s') s₁ := by
  wrow_args hpre hlay hrd hwl hlo
  rename_i is _ _ _ _ _ _ _ sl vs _ hL _ _ _ hI _ hlen _
  have hz : is.length ≤ 63 := by wtm_at "om"
  have y1 : ksK.map s₀.heap.get? = (heapK w.params).map fun p => some p.2 := congrArg Prod.fst Y
  have y2 : s₀.heap.get? 172 = some (tabObj #[]) := congrArg (fun x => x.2.1) Y
  have y4 : decide (0 < s₀.toks) = true := congrArg (fun x => x.2.2.2) Y
  have htk : 0 < s₁.toks := Nat.lt_of_lt_of_le (of_decide_eq_true y4) (script_toks L rfl)
  have KI : (KK w.params).In s₁.heap := InK.keeps w s₀.heap s₁.heap (InK.of ksK_eq w s₀ y1) L.keeps
  have t1 := L.keeps _ _ y2
  obtain ⟨e1, e2⟩ := script_at L
  obtain ⟨oL, hoL, cL, nL, dL⟩ := hL
  have hfa : fa = 251 := by
    have := ns_some_of KI G.T.g (n := Str.ofString "law") (v := .ref 251) (by kernel_rfl!)
    rw [this] at hmg
    cases hmg
    rfl
  subst hfa
  let C : Cx := {
    h₀ := s₁.heap, os := s₁.os, K := KK w.params, kin := KI
    kcls := heapK_cls w.params
    lim := G.T.nolimit
    low := low_of G.T.nolimit
    last := ⟨sl, oL, hoL, by rw [e2, e1]⟩
    mb := mb, bns := G.T.b, bb := G.T.builtins, mg := mg, gns := G.T.g, bmain := G.T.bmain
    lams := [lam03]
    lamlow := fun q hq => by cases List.mem_singleton.mp hq; exact Heap.lt_size t1
    lamtab := fun q hq => by
      cases List.mem_singleton.mp hq
      exact ⟨by decide, 174, #[], table_174 KI, t1⟩
    lamsame := fun q hq r hr _ => by cases List.mem_singleton.mp hq; cases List.mem_singleton.mp hr; exact ⟨rfl, rfl⟩ }
  have S : Sat C [] s₁ := ⟨.refl _, rfl, fun _ h => (nomatch h), fun _ h => (nomatch h), .nil, rfl, .of_eq hg, fun _ h => (nomatch h), htk, fun q hq => by
    cases List.mem_singleton.mp hq
    exact ⟨⟨#[], t1, trivial, fun _ h => by cases h⟩, fun _ h => by cases h⟩⟩
  have R : Rm 60 callerA := ⟨rfl, by decide +kernel, by decide +kernel⟩
  have hx : vs.toArray.toList.map er = intL is := ints_er hI
  refine wpAny_mono (T_law (prog := Challenge.rw_rs0229_03.row.prog) (w := w) (C := C) (ρ := []) (E := fun _ _ => False) (Q := fun v _ => v = .bool true) rfl (List.mem_singleton.mpr rfl) R ⟨oL, hoL, cL, nL, dL⟩ hx hz (fun _ => rfl) s₁ S) ?_ ?_
  · rintro v s' ⟨σ', rfl, S'⟩
    exact ⟨.inl ⟨_, .bool true, [], rfl, fun _ => rfl, .bool true, by wrow_post, fun _ => ⟨.nil, fun _ h => (nomatch h)⟩⟩, S'.old, S'.os, S'.gens⟩
  · rintro e s' ⟨_, h, _⟩
    exact h.elim
theorem fin : Challenge.rw_rs0229_03.Holds := by
  refine holds_law said fun sd => ?_
  refine holds_openX (q := vw) (loose := looseK) (Xt := fun s => xlAt vw [] s && recOk [] s) (XP := XL vw []) (Yf := obsK) (Ya := valK) (N := 3218) left (fun s e => xl_of s (Bool.and_eq_true_iff.mp e).1) XL.keeps (by rfl) (by rfl) (by rfl) (fun s e => recFacts_of (Bool.and_eq_true_iff.mp e).2) (by rfl) sd (by decide +kernel) ⟨rfl, rfl, rfl, rfl, rfl, by decide +kernel⟩ ?hw ?hc
  case hw => w_witness2
  case hc =>
    intro w s₀ s₁ mg mb G Y fa o pm cd doc dV kV ho hd hcd hD hmg hg args vals as L hpre hlay hrd hwl hlo
    exact theCall G Y hmg hg L hpre hlay hrd hwl hlo
end R3
set_option maxRecDepth 100000 in
set_option maxHeartbeats 8000000 in
theorem PySem.Challenge.cw_rs0229_03_holds : PySem.Challenge.rw_rs0229_03.Holds :=
  R3.fin
